import Derived.WalkKit
namespace Go.Proofs.Qxb6612919a
open Go.RowKit
set_option linter.unusedVariables false

/-- first(h, n), as a number. -/
def fst (h n : Int) : Int := h % 4294967296 * n / 4294967296
/-- Where slot r's run begins. -/
def st (r n : Int) : Int := (r * 4294967296 + n - 1) / n

theorem prod_bd (x n : Int) (h0 : 0 ≤ x) (h1 : x < 4294967296) (n0 : 1 ≤ n) (n1 : n ≤ 4294967296) : 0 ≤ x * n ∧ x * n ≤ 4294967295 * n ∧ x * n ≤ 18446744069414584320 := by
  have a := Int.mul_nonneg h0 (show 0 ≤ n by omega)
  have b : x * n ≤ 4294967295 * n := Int.mul_le_mul_of_nonneg_right (by omega) (by omega)
  exact ⟨a, b, by omega⟩

theorem fst_bd (h n : Int) (n0 : 1 ≤ n) (n1 : n ≤ 4294967296) : 0 ≤ fst h n ∧ fst h n < n := by
  obtain ⟨a, b, c⟩ := prod_bd (h % 4294967296) n (by omega) (by omega) n0 n1
  unfold fst
  generalize h % 4294967296 * n = p at *
  omega

theorem fst_eq (h n : Int) (n0 : 1 ≤ n) (n1 : n ≤ 4294967296) : wrap64 (IntKind.u64.wrap (h % 4294967296 * n) / 4294967296) = fst h n := by
  obtain ⟨a, b, c⟩ := prod_bd (h % 4294967296) n (by omega) (by omega) n0 n1
  unfold fst
  generalize h % 4294967296 * n = p at *
  simp only [IntKind.wrap_u64, wrap64]
  omega

theorem st_bd (r n : Int) (h0 : 0 ≤ r) (h1 : r < n) (n1 : n ≤ 4294967296) : 0 ≤ st r n ∧ r * 4294967296 ≤ st r n * n ∧ st r n * n ≤ r * 4294967296 + n - 1 := by
  unfold st
  have a := Int.ediv_mul_le (r * 4294967296 + n - 1) (show n ≠ 0 by omega)
  have b := Int.lt_ediv_add_one_mul_self (r * 4294967296 + n - 1) (show 0 < n by omega)
  rw [Int.add_mul, Int.one_mul] at b
  exact ⟨Int.ediv_nonneg (by omega) (by omega), by omega, a⟩

theorem st_eq (r n : Int) (h0 : 0 ≤ r) (h1 : r < n) (n1 : n ≤ 4294967296) : IntKind.u64.wrap ((IntKind.u64.wrap (IntKind.u64.wrap (r * 4294967296 + n) - 1)).tdiv n) = st r n := by
  have e : IntKind.u64.wrap (IntKind.u64.wrap (r * 4294967296 + n) - 1) = r * 4294967296 + n - 1 := by
    simp only [IntKind.wrap_u64]; omega
  rw [e, Int.tdiv_eq_ediv_of_nonneg (by omega)]
  have a : 0 ≤ (r * 4294967296 + n - 1) / n := Int.ediv_nonneg (by omega) (by omega)
  have b := Int.ediv_le_self n (show 0 ≤ r * 4294967296 + n - 1 by omega)
  unfold st
  simp only [IntKind.wrap_u64]
  generalize (r * 4294967296 + n - 1) / n = q at *
  omega

theorem lt_of_prod (a b n : Int) (n0 : 1 ≤ n) (h : a * n < b * n) : a < b := Int.lt_of_mul_lt_mul_right h (by omega)

/-- lo lies in slot r's run. -/
theorem lo_bd (h n : Int) (n0 : 1 ≤ n) (n1 : n ≤ 4294967296) : st (fst h n) n ≤ h % 4294967296 := by
  obtain ⟨r0, r1⟩ := fst_bd h n n0 n1
  obtain ⟨s0, s1, s2⟩ := st_bd (fst h n) n r0 r1 n1
  have hp : fst h n * 4294967296 ≤ h % 4294967296 * n := by
    unfold fst
    generalize h % 4294967296 * n = p
    omega
  have : st (fst h n) n < h % 4294967296 + 1 := by
    refine lt_of_prod _ _ n n0 ?_
    rw [Int.add_mul, Int.one_mul]
    omega
  omega

theorem hi_bd (h n : Int) (n0 : 1 ≤ n) (n1 : n ≤ 4294967296) (hr : fst h n + 1 < n) : h % 4294967296 < st (fst h n + 1) n := by
  obtain ⟨r0, r1⟩ := fst_bd h n n0 n1
  obtain ⟨s0, s1, s2⟩ := st_bd (fst h n + 1) n (by omega) hr n1
  have hp : h % 4294967296 * n < (fst h n + 1) * 4294967296 := by
    unfold fst
    generalize h % 4294967296 * n = p
    omega
  exact lt_of_prod _ _ n n0 (by omega)

theorem fst_st (r n : Int) (n0 : 1 ≤ n) (n1 : n ≤ 4294967296) (h0 : 0 ≤ r) (h1 : r < n) (hs : st r n < 4294967296) : fst (st r n) n = r := by
  obtain ⟨s0, s1, s2⟩ := st_bd r n h0 h1 n1
  unfold fst
  rw [Int.emod_eq_of_lt s0 hs]
  omega

theorem st_pos (r n : Int) (n0 : 1 ≤ n) (n1 : n ≤ 4294967296) (h0 : 0 < r) (h1 : r < n) : 0 < st r n := by
  obtain ⟨s0, s1, s2⟩ := st_bd r n (by omega) h1 n1
  refine lt_of_prod 0 _ n n0 ?_
  rw [Int.zero_mul]
  omega

theorem fst_st_pred (r n : Int) (n0 : 1 ≤ n) (n1 : n ≤ 4294967296) (h0 : 0 < r) (h1 : r < n) (hs : st r n < 4294967296) : fst (st r n - 1) n = r - 1 := by
  obtain ⟨s0, s1, s2⟩ := st_bd r n (by omega) h1 n1
  have hp := st_pos r n n0 n1 h0 h1
  unfold fst
  rw [Int.emod_eq_of_lt (by omega) (by omega), Int.sub_mul, Int.one_mul]
  omega

/-- Doubling the slots. -/
theorem fst_double (h n : Int) (n0 : 1 ≤ n) (n1 : n ≤ 2147483648) :
    fst h (n + n) = 2 * fst h n + h % 4294967296 * n % 4294967296 / 2147483648 := by
  unfold fst
  rw [Int.mul_add]
  generalize h % 4294967296 * n = p
  omega
theorem dbl_eq (h n : Int) (n0 : 1 ≤ n) (n1 : n ≤ 2147483648) :
    (fst h (n + n) == 2 * fst h n + IntKind.u64.wrap (h % 4294967296 * n) % 4294967296 / 2147483648) = true := by
  obtain ⟨a, b, c⟩ := prod_bd (h % 4294967296) n (by omega) (by omega) n0 (by omega)
  rw [fst_double h n n0 n1, beq_iff_eq]
  have : IntKind.u64.wrap (h % 4294967296 * n) = h % 4294967296 * n := by
    simp only [IntKind.wrap_u64]
    generalize h % 4294967296 * n = p at *
    omega
  rw [this]
end Go.Proofs.Qxb6612919a
