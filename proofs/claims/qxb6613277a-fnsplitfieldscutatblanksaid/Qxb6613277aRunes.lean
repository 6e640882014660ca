import Derived.Test.Qxb6613277aPlain
import Derived.Lib.DecodeN
namespace Go.Proofs.Qxb6613277a

/-- The separator, on runes. -/
def sep (x : Nat) : Bool := x == 32 || x == 9

theorem blank_nat (c : UInt8) : blank c = (c.toNat == 32 || c.toNat == 9) := by
  unfold blank
  have h1 : (c == 32) = (c.toNat == 32) := by
    rw [Bool.eq_iff_iff]; simp; exact ⟨fun h => by subst h; rfl, fun h => UInt8.toNat_inj.1 (by simpa using h)⟩
  have h2 : (c == 9) = (c.toNat == 9) := by
    rw [Bool.eq_iff_iff]; simp; exact ⟨fun h => by subst h; rfl, fun h => UInt8.toNat_inj.1 (by simpa using h)⟩
  rw [h1, h2]

theorem decN (n b0 b1 b2 b3 : Nat) (hn : 1 ≤ n) :
    1 ≤ (Lib.decodeN n b0 b1 b2 b3).2 ∧ (Lib.decodeN n b0 b1 b2 b3).2 ≤ n ∧ (b0 < 128 → Lib.decodeN n b0 b1 b2 b3 = (b0, 1)) ∧
    (128 ≤ b0 → 128 ≤ (Lib.decodeN n b0 b1 b2 b3).1 ∧ (Lib.decodeN n b0 b1 b2 b3).2 ≤ 4 ∧ (2 ≤ (Lib.decodeN n b0 b1 b2 b3).2 → 128 ≤ b1) ∧ (3 ≤ (Lib.decodeN n b0 b1 b2 b3).2 → 128 ≤ b2) ∧ (4 ≤ (Lib.decodeN n b0 b1 b2 b3).2 → 128 ≤ b3)) := by
  unfold Lib.decodeN
  repeat' split
  all_goals
    dsimp only
    refine ⟨by omega, by omega, fun h => ?_, fun h => ⟨by omega, by omega, by omega, by omega, by omega⟩⟩
    first | rfl | (exfalso; omega)

theorem get_eq (s : ByteArray) (i : Nat) (h : i < s.size) : s.get! i = s.data.toList[i]'(by simpa using h) := by
  have : i < s.data.size := h
  have e : s.get! i = s.data[i]! := rfl
  rw [e, getElem!_pos s.data i this]
  simp

/-- One rune: either one byte below 128, which is the rune; or a rune from 128 on, and no blank in its bytes. -/
theorem dec (s : ByteArray) (pos : Nat) (h : pos < s.size) :
    1 ≤ (Utf8.decode s pos).2 ∧ pos + (Utf8.decode s pos).2 ≤ s.size ∧
    ((Utf8.decode s pos = ((s.data.toList[pos]'(by simpa using h)).toNat, 1)) ∨
     (sep (Utf8.decode s pos).1 = false ∧ ∀ x ∈ (s.data.toList.drop pos).take (Utf8.decode s pos).2, blank x = false)) := by
  rw [Lib.decode_at]
  obtain ⟨d1, d2, d3, d4⟩ := decN (s.size - pos) (s.get! pos).toNat (s.get! (pos + 1)).toNat (s.get! (pos + 2)).toNat (s.get! (pos + 3)).toNat (by omega)
  refine ⟨d1, by omega, ?_⟩
  by_cases hb : (s.get! pos).toNat < 128
  · left
    rw [d3 hb, get_eq s pos h]
  · right
    obtain ⟨e1, e2, e3, e4, e5⟩ := d4 (by omega)
    refine ⟨?_, ?_⟩
    · simp [sep]; omega
    · intro x hx
      obtain ⟨j, hj, rfl⟩ := List.getElem_of_mem hx
      simp at hj
      have hlt : pos + j < s.size := by omega
      have : ((s.data.toList.drop pos).take (Lib.decodeN (s.size - pos) (s.get! pos).toNat (s.get! (pos + 1)).toNat (s.get! (pos + 2)).toNat (s.get! (pos + 3)).toNat).2)[j]'(by simpa using hj) = s.get! (pos + j) := by
        rw [get_eq s (pos + j) hlt]; simp
      rw [this, blank_nat]
      have hge : 128 ≤ (s.get! (pos + j)).toNat := by
        match j, hj with
        | 0, _ => simpa using hb
        | 1, hj => exact e3 (by omega)
        | 2, hj => exact e4 (by omega)
        | 3, hj => exact e5 (by omega)
        | j + 4, hj => omega
      have n1 : ((s.get! (pos + j)).toNat == 32) = false := beq_eq_false_iff_ne.2 (by omega)
      have n2 : ((s.get! (pos + j)).toNat == 9) = false := beq_eq_false_iff_ne.2 (by omega)
      rw [n1, n2]; rfl

/-- The bytes of a span. -/
def ext (l : List UInt8) (x : Nat × Nat) : List UInt8 := (l.drop x.1).take (x.2 - x.1)
def curOf (l : List UInt8) (pos : Nat) : Option Nat → List UInt8
  | none => []
  | some a => ext l (a, pos)

theorem take_add (l : List UInt8) (pos K : Nat) : l.take (pos + K) = l.take pos ++ (l.drop pos).take K := List.take_add

theorem ext_add (l : List UInt8) (a pos K : Nat) (h : a ≤ pos) : ext l (a, pos + K) = ext l (a, pos) ++ (l.drop pos).take K := by
  unfold ext
  simp only
  rw [show pos + K - a = (pos - a) + K by omega, List.take_add, List.drop_drop]
  congr 3
  omega

theorem ext_ne (l : List UInt8) (a pos : Nat) (h : a < pos) (hp : pos ≤ l.length) : ext l (a, pos) ≠ [] := by
  intro e
  have := congrArg List.length e
  simp [ext] at this
  omega

theorem spans_run (s : ByteArray) : ∀ (f pos : Nat) (st : Option Nat) (acc : List (Nat × Nat)), s.size ≤ pos + f → pos ≤ s.size → (∀ a, st = some a → a < pos) →
    frun (s.data.toList.take pos) = (acc.map (ext s.data.toList), curOf s.data.toList pos st) →
    (Lib.closeSpans s (Lib.spansFromP sep s f pos st acc)).map (ext s.data.toList) = fieldsL s.data.toList := by
  have fin : ∀ (st : Option Nat) (acc : List (Nat × Nat)), (∀ a, st = some a → a < s.size) → frun (s.data.toList.take s.size) = (acc.map (ext s.data.toList), curOf s.data.toList s.size st) → (Lib.closeSpans s (acc, st)).map (ext s.data.toList) = fieldsL s.data.toList := by
    intro st acc hst h
    rw [List.take_of_length_le (by simp)] at h
    rw [fieldsL, h, fclose]
    cases st with
    | none => simp [Lib.closeSpans, curOf]
    | some a =>
      have := ext_ne s.data.toList a s.size (hst a rfl) (by simp)
      simp [Lib.closeSpans, curOf, this]
  intro f
  induction f with
  | zero =>
    intro pos st acc hf hp hst h
    obtain rfl : pos = s.size := by omega
    exact fin st acc hst h
  | succ f ih =>
    intro pos st acc hf hp hst h
    by_cases hlt : pos < s.size
    · obtain ⟨d1, d2, d3⟩ := dec s pos hlt
      unfold Lib.spansFromP
      rw [if_pos hlt]
      generalize hR : Utf8.decode s pos = D at *
      obtain ⟨R, K⟩ := D
      simp only at d1 d2 d3 ⊢
      have htk : frun (s.data.toList.take (pos + K)) = ((s.data.toList.drop pos).take K).foldl fstep (acc.map (ext s.data.toList), curOf s.data.toList pos st) := by
        rw [take_add, frun_append, h]
      rcases d3 with d3 | ⟨d3, d4⟩
      · simp only [Prod.mk.injEq] at d3
        obtain ⟨rfl, rfl⟩ := d3
        have hone : (s.data.toList.drop pos).take 1 = [s.data.toList[pos]'(by simpa using hlt)] := by
          rw [List.drop_eq_getElem_cons (by simpa using hlt)]; simp
        rw [hone, List.foldl_cons, List.foldl_nil] at htk
        have hs : sep (s.data.toList[pos]'(by simpa using hlt)).toNat = blank (s.data.toList[pos]'(by simpa using hlt)) := by rw [blank_nat]; rfl
        rw [hs]
        by_cases hb : blank (s.data.toList[pos]'(by simpa using hlt)) = true
        · rw [if_pos hb]
          rw [fstep, if_pos hb] at htk
          cases st with
          | none =>
            simp only
            refine ih (pos + 1) none acc (by omega) (by omega) (fun a h => by cases h) ?_
            rw [htk]; exact if_pos rfl
          | some a =>
            simp only
            refine ih (pos + 1) none _ (by omega) (by omega) (fun a h => by cases h) ?_
            have hne : curOf s.data.toList pos (some a) ≠ [] := ext_ne _ _ _ (hst a rfl) (by simpa using hp)
            rw [htk, if_neg hne]
            simp [curOf]
        · rw [if_neg hb]
          rw [fstep, if_neg hb] at htk
          cases st with
          | none =>
            simp only
            refine ih (pos + 1) (some pos) acc (by omega) (by omega) (fun a h => by cases h; omega) ?_
            rw [htk]
            simp only [curOf, List.nil_append]
            rw [ext_add _ _ _ _ (Nat.le_refl _), hone]
            simp [ext]
          | some a =>
            simp only
            have := hst a rfl
            refine ih (pos + 1) (some a) acc (by omega) (by omega) (fun b h => by cases h; omega) ?_
            rw [htk]
            simp only [curOf]
            rw [ext_add _ _ _ _ (by omega), hone]
      · rw [d3]
        simp only [Bool.false_eq_true, if_false]
        rw [fold_word _ _ _ d4] at htk
        cases st with
        | none =>
          simp only
          refine ih (pos + K) (some pos) acc (by omega) d2 (fun a h => by cases h; omega) ?_
          rw [htk]
          simp only [curOf, List.nil_append]
          rw [ext_add _ _ _ _ (Nat.le_refl _)]
          simp [ext]
        | some a =>
          simp only
          have := hst a rfl
          refine ih (pos + K) (some a) acc (by omega) d2 (fun b h => by cases h; omega) ?_
          rw [htk]
          simp only [curOf]
          rw [ext_add _ _ _ _ (by omega)]
    · obtain rfl : pos = s.size := by omega
      unfold Lib.spansFromP
      rw [if_neg hlt]
      exact fin st acc hst h

theorem extract_eq (s : ByteArray) (a b : Nat) : s.extract a b = ⟨(ext s.data.toList (a, b)).toArray⟩ := by
  apply ByteArray.ext
  apply Array.toList_inj.1
  rw [Lib.extract_data]
  simp [ext]

/-- strings.FieldsFunc at blanks and tabs: the fields byte by byte. -/
theorem fields_eq (s : ByteArray) : Lib.goFieldsP sep s = (fieldsL s.data.toList).map fun l => ⟨l.toArray⟩ := by
  have := spans_run s s.size 0 none [] (by omega) (Nat.zero_le _) (fun a h => by cases h) rfl
  rw [← this, Lib.goFieldsP, List.map_map]
  apply List.map_congr_left
  intro x _
  exact extract_eq s x.1 x.2
end Go.Proofs.Qxb6613277a
