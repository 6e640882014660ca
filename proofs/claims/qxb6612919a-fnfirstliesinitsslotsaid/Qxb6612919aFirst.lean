import Derived.Test.Qxb6612919aRows
import Derived.WalkKit
import Derived.ProofKit
import Derived.WalkSpells
import Derived.WalkLawsBesides
import Derived.Laws.MathBits
import Derived.Test.Qxb6612919aPlain
namespace Go.Proofs.Qxb6612919a
open Go.RowKit
set_option linter.unusedVariables false

theorem first7 (h n : Int) (w : World) (h0 : 0 ≤ h) (h1 : h < 18446744073709551616) (n0 : 1 ≤ n) (n1 : n ≤ 4294967296) :
    Calls Try.prog 7 #[.int .u64 h, .int .i64 n] w fun e w' => e = .returned (.int .i64 (fst h n)) ∧ w' = w := by
  have hd : Hid _ := fst_eq h n n0 n1
  go_enter Try.func7, Try.ntmps7
  go_wp2
  go_ret
  exact ⟨congrArg (fun x => Ending.returned (.int .i64 x)) hd.out, rfl⟩

theorem first5 (h n : Int) (w : World) (h0 : 0 ≤ h) (h1 : h < 18446744073709551616) (n0 : 1 ≤ n) (n1 : n ≤ 4294967296) :
    Calls Try.prog 5 #[.int .u64 h, .int .i64 n] w fun e w' => e = .returned (.int .i64 (fst h n)) ∧ w' = w := by
  go_enter Try.func5, Try.ntmps5
  go_wp2_with fail
  refine (first7 h n w h0 h1 n0 n1).mono ?_
  rintro e w' ⟨rfl, rfl⟩
  go_wp2_with fail
  go_ret
  exact ⟨rfl, rfl⟩

theorem slot6 (r n : Int) (w : World) (h0 : 0 ≤ r) (h1 : r < n) (n1 : n ≤ 4294967296) :
    Calls Try.prog 6 #[.int .u64 r, .int .u64 n] w fun e w' => e = .returned (.int .u64 (st r n)) ∧ w' = w := by
  have hd : Hid _ := st_eq r n h0 h1 n1
  have n0 : 1 ≤ n := by omega
  go_enter Try.func6, Try.ntmps6
  go_wp2
  go_ret
  exact ⟨congrArg (fun x => Ending.returned (.int .u64 x)) hd.out, rfl⟩

/-- FnFirstDoubledSlots. -/
theorem doubled4 (h n : Int) (w : World) (h0 : 0 ≤ h) (h1 : h < 18446744073709551616) (b0 : -9223372036854775808 ≤ n) (b1 : n ≤ 9223372036854775807) :
    Calls Try.prog 4 #[.int .u64 h, .int .i64 n] w fun e w' => e = .returned (.bool true) ∧ w' = w := by
  by_cases n0 : n < 1
  · go_enter Try.func4, Try.ntmps4
    go_wp2_with fail
    go_ret
    exact ⟨rfl, rfl⟩
  by_cases n1 : 2147483648 < n
  · go_enter Try.func4, Try.ntmps4
    go_wp2_with fail
    go_ret
    exact ⟨rfl, rfl⟩
  obtain ⟨r0, r1⟩ := fst_bd h n (by omega) (by omega)
  have hd : Hid _ := dbl_eq h n (by omega) (by omega)
  have hlo := and_low32 h h0 h1
  go_enter Try.func4, Try.ntmps4
  go_wp2_with fail
  refine (first5 h n w h0 h1 (by omega) (by omega)).mono ?_
  rintro e w' ⟨rfl, rfl⟩
  go_wp2_with fail
  refine (first5 h (n + n) w' h0 h1 (by omega) (by omega)).mono ?_
  rintro e w2 ⟨rfl, rfl⟩
  go_wp2_with fail
  go_ret
  exact ⟨congrArg (fun b => Ending.returned (.bool b)) hd.out, rfl⟩
end Go.Proofs.Qxb6612919a
