import Derived.Test.Qxb6612837aHead
namespace Go.Proofs.Qxb6612837a
open Go.RowKit

/-- The cells of n branches, one behind the other. -/
def cat (n : Nat) (F : Nat → Br) : List Value := (List.range n).flatMap fun i => six (F i)

theorem cat_succ (n : Nat) (F : Nat → Br) : cat (n + 1) F = cat n F ++ six (F n) := by simp [cat, List.range_succ]

theorem cat_length (n : Nat) (F : Nat → Br) : (cat n F).length = n * 6 := by
  induction n with
  | zero => rfl
  | succ n ih => rw [cat_succ, List.length_append, ih]; simp [six]; omega

theorem cat_add (n m : Nat) (F : Nat → Br) : cat (n + m) F = cat n F ++ cat m (fun i => F (n + i)) := by
  induction m with
  | zero => simp [cat]
  | succ m ih => rw [← Nat.add_assoc, cat_succ, ih, cat_succ, List.append_assoc]

theorem cat_congr (n : Nat) (F G : Nat → Br) (h : ∀ i, i < n → F i = G i) : cat n F = cat n G := by
  induction n with
  | zero => rfl
  | succ n ih => rw [cat_succ, cat_succ, ih (fun i hi => h i (by omega)), h n (by omega)]

theorem cat_get (n : Nat) (F : Nat → Br) (i c : Nat) (hi : i < n) (hc : c < 6) : (cat n F)[i * 6 + c]? = (six (F i))[c]? := by
  induction n with
  | zero => omega
  | succ n ih =>
    rw [cat_succ]
    by_cases h : i < n
    · rw [List.getElem?_append_left (by rw [cat_length]; omega)]
      exact ih h
    · obtain rfl : i = n := by omega
      rw [List.getElem?_append_right (by rw [cat_length]; omega), cat_length]
      congr 1
      omega

theorem six_one (x : Br) : ∀ u ∈ six x, u.oneCell' = true := by
  intro u hu
  simp [six] at hu
  rcases hu with rfl | rfl | rfl | rfl | rfl | rfl <;> rfl

theorem cat_one (n : Nat) (F : Nat → Br) : ∀ u ∈ cat n F, u.oneCell' = true := by
  intro u hu
  simp only [cat, List.mem_flatMap] at hu
  obtain ⟨i, -, hi⟩ := hu
  exact six_one _ u hi

/-- The branches with one put in at place p. -/
def putIn (p : Nat) (E : Br) (F : Nat → Br) (i : Nat) : Br := if i < p then F i else if i = p then E else F (i - 1)

theorem cat_put (p len : Nat) (E : Br) (F : Nat → Br) (hp : p ≤ len) : (cat p F ++ six E) ++ cat (len - p) (fun i => F (p + i)) = cat (len + 1) (putIn p E F) := by
  rw [show len + 1 = (p + 1) + (len - p) from by omega, cat_add, cat_succ, cat_congr p F (putIn p E F) (fun i hi => by simp [putIn, hi])]
  have e1 : putIn p E F p = E := by simp [putIn]
  have e2 : cat (len - p) (fun i => F (p + i)) = cat (len - p) (fun i => putIn p E F (p + 1 + i)) := by
    refine cat_congr _ _ _ fun i hi => ?_
    rw [putIn, if_neg (by omega), if_neg (by omega)]
    congr 1
    omega
  rw [e1, e2]

/-- The cells of a row, as the append law asks for them. -/
theorem row_news {w : World} {B : Nat} {a : Option Addr} {n : Nat} {F : Nat → Br} (h : Row w B a n F) : ∀ ad, a = some ad → ∀ j u, (cat n F)[j]? = some u → w.cell? (ad.add j) = some u := by
  intro ad ha j u hu
  have hj : j < n * 6 := by
    have := (List.getElem?_eq_some_iff.1 hu).1
    rwa [cat_length] at this
  obtain ⟨b, off, hx, -, hc⟩ := h (by omega)
  obtain rfl : ad = ⟨b, off, none⟩ := by rw [ha] at hx; simpa using hx
  have hij : j = j / 6 * 6 + j % 6 := by omega
  have hq : j / 6 < n := by omega
  have hm : j % 6 < 6 := by omega
  rw [hij, cat_get n F (j / 6) (j % 6) hq hm] at hu
  have hadd : (⟨b, off, none⟩ : Addr).add j = ⟨b, off + j / 6 * 6 + j % 6, none⟩ := by
    by_cases h0 : j = 0
    · subst h0; simp [Addr.add]
    · rw [Addr.add, if_neg h0]; simp; omega
  rw [hadd]
  obtain ⟨c0, c1, c2, c3, c4, c5⟩ := hc (j / 6) hq
  generalize j % 6 = m at *
  match m, hm with
  | 0, _ => simp [six] at hu; rw [← hu]; exact c0
  | 1, _ => simp [six] at hu; rw [← hu]; exact c1
  | 2, _ => simp [six] at hu; rw [← hu]; exact c2
  | 3, _ => simp [six] at hu; rw [← hu]; exact c3
  | 4, _ => simp [six] at hu; rw [← hu]; exact c4
  | 5, _ => simp [six] at hu; rw [← hu]; exact c5

/-- What is owned reads as a row. -/
theorem row_owned {w : World} {base g n cap : Nat} {F : Nat → Br} (h : w.ownsRow base 45 6 (.slice (some ⟨g, 0, none⟩) n cap) n (cat n F)) : Row w w.heap.size (some ⟨g, 0, none⟩) n F := by
  intro _
  refine ⟨g, 0, rfl, (h.lt g rfl).2, fun i hi => ?_⟩
  have hc : ∀ c, c < 6 → w.cell? ⟨g, 0 + i * 6 + c, none⟩ = (six (F i))[c]? := by
    intro c hc
    have hg := cat_get n F i c hi hc
    obtain ⟨u, hu⟩ : ∃ u, (six (F i))[c]? = some u := ⟨_, List.getElem?_eq_getElem (by simpa [six] using hc)⟩
    rw [hu] at hg ⊢
    have := h.cells rfl _ u hg
    rw [Addr.add_lit, ← Nat.add_assoc] at this
    exact this
  exact ⟨hc 0 (by omega), hc 1 (by omega), hc 2 (by omega), hc 3 (by omega), hc 4 (by omega), hc 5 (by omega)⟩
end Go.Proofs.Qxb6612837a
