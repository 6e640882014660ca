import Derived.Test.Qxb6613277aRunes
namespace Go.Proofs.Qxb6613277a

/-! ### The first loop's state -/
def nst (s : ByteArray) (k : Nat) : List UInt8 × Bool := nrun (s.data.toList.take k)

theorem elem_eq (s : ByteArray) (k : Nat) (h : k < s.size) : s[k] = s.data.toList[k]'(by simpa using h) := rfl

theorem take_succ (s : ByteArray) (k : Nat) (h : k < s.size) : s.data.toList.take (k + 1) = s.data.toList.take k ++ [s[k]] := by
  rw [elem_eq, List.take_succ_eq_append_getElem]

theorem nst_zero (s : ByteArray) : nst s 0 = ([], false) := rfl

theorem nst_blank (s : ByteArray) (k : Nat) (h : k < s.size) (hb : blank s[k] = true) : nst s (k + 1) = ((nst s k).1, (nst s k).2 || !(nst s k).1.isEmpty) := by
  rw [nst, take_succ s k h, nrun_snoc, nstep, if_pos hb]; rfl

theorem nst_word (s : ByteArray) (k : Nat) (h : k < s.size) (hb : blank s[k] = false) : nst s (k + 1) = ((nst s k).1 ++ (if (nst s k).2 = true then [32] else []) ++ [s[k]], false) := by
  rw [nst, take_succ s k h, nrun_snoc, nstep, if_neg (by simp [hb])]; rfl

theorem nst_le (s : ByteArray) (k : Nat) (h : k ≤ s.size) : (nst s k).1.length + (if (nst s k).2 = true then 1 else 0) ≤ k := by
  induction k with
  | zero => rw [nst_zero]; simp
  | succ k ih =>
    have ih := ih (by omega)
    cases hb : blank (s[k]'(by omega)) with
    | true =>
      rw [nst_blank s k (by omega) hb]
      show (nst s k).1.length + (if ((nst s k).2 || !(nst s k).1.isEmpty) = true then 1 else 0) ≤ k + 1
      cases hg : (nst s k).2 <;> rw [hg] at ih <;> simp at ih ⊢
      · split <;> omega
      · omega
    | false =>
      rw [nst_word s k (by omega) hb]
      show ((nst s k).1 ++ (if (nst s k).2 = true then [32] else []) ++ [s[k]]).length + (if false = true then 1 else 0) ≤ k + 1
      cases hg : (nst s k).2 <;> rw [hg] at ih <;> simp at ih ⊢ <;> omega

theorem nst_end (s : ByteArray) : (nst s s.size).1 = joinB (fieldsL s.data.toList) := by
  rw [nst, List.take_of_length_le (by simp)]
  exact (nrun_eq _).1

/-! ### Where each field lies in the normalised text -/
theorem joinB_pre (E : List (List UInt8)) : ∀ D : List (List UInt8), ∃ r, joinB (D ++ E) = joinB D ++ r := by
  induction E with
  | nil => intro D; exact ⟨[], by simp⟩
  | cons e E ih =>
    intro D
    obtain ⟨r, hr⟩ := ih (D ++ [e])
    rw [joinB_snoc] at hr
    rw [show D ++ e :: E = D ++ [e] ++ E by simp, hr]
    by_cases hD : D = []
    · subst hD; exact ⟨e ++ r, by simp [joinB]⟩
    · rw [if_neg hD]; exact ⟨32 :: e ++ r, by simp⟩

def endOf (fs : List (List UInt8)) (k : Nat) : Nat := (joinB (fs.take k)).length
def startOf (fs : List (List UInt8)) (k : Nat) : Nat := if k = 0 then 0 else endOf fs k + 1

theorem endOf_zero (fs : List (List UInt8)) : endOf fs 0 = 0 := by simp [endOf, joinB]
theorem endOf_all (fs : List (List UInt8)) : endOf fs fs.length = (joinB fs).length := by simp [endOf]

theorem join_take (fs : List (List UInt8)) (k : Nat) (h : k < fs.length) : joinB (fs.take (k + 1)) = (if k = 0 then [] else joinB (fs.take k) ++ [32]) ++ fs[k] := by
  rw [List.take_succ_eq_append_getElem h, joinB_snoc]
  by_cases hk : k = 0
  · subst hk; simp
  · have : fs.take k ≠ [] := by
      intro e
      have := congrArg List.length e
      rw [List.length_take, List.length_nil] at this
      omega
    rw [if_neg this, if_neg hk]
    simp

theorem pre_len (fs : List (List UInt8)) (k : Nat) : (if k = 0 then [] else joinB (fs.take k) ++ [32]).length = startOf fs k := by
  unfold startOf endOf
  by_cases hk : k = 0 <;> simp [hk]

theorem endOf_succ (fs : List (List UInt8)) (k : Nat) (h : k < fs.length) : endOf fs (k + 1) = startOf fs k + fs[k].length := by
  rw [endOf, join_take fs k h, List.length_append, pre_len]

theorem join_split (fs : List (List UInt8)) (k : Nat) (h : k < fs.length) : ∃ r, joinB fs = (if k = 0 then [] else joinB (fs.take k) ++ [32]) ++ fs[k] ++ r := by
  obtain ⟨r, hr⟩ := joinB_pre (fs.drop (k + 1)) (fs.take (k + 1))
  rw [List.take_append_drop, join_take fs k h] at hr
  exact ⟨r, hr⟩

theorem at_gap (fs : List (List UInt8)) (k : Nat) (h0 : 0 < k) (h : k < fs.length) : (joinB fs)[endOf fs k]? = some 32 := by
  obtain ⟨r, hr⟩ := join_split fs k h
  rw [hr, if_neg (by omega), endOf]
  simp

theorem at_field (fs : List (List UInt8)) (k m : Nat) (h : k < fs.length) (hm : m < fs[k].length) : (joinB fs)[startOf fs k + m]? = some (fs[k][m]) := by
  obtain ⟨r, hr⟩ := join_split fs k h
  rw [hr, List.append_assoc, ← pre_len, List.getElem?_append_right (by omega)]
  rw [Nat.add_sub_cancel_left, List.getElem?_append_left hm]
  simp [hm]
end Go.Proofs.Qxb6613277a
