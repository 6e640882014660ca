import Derived.Test.Qxb6612919aFirst
namespace Go.Proofs.Qxb6612919a
open Go.RowKit
set_option linter.unusedVariables false

/-- FnFirstLiesInItsSlot. -/
theorem slot3 (h n : Int) (w : World) (h0 : 0 ≤ h) (h1 : h < 18446744073709551616) (b0 : -9223372036854775808 ≤ n) (b1 : n ≤ 9223372036854775807) :
    Calls Try.prog 3 #[.int .u64 h, .int .i64 n] w fun e w' => e = .returned (.bool true) ∧ w' = w := by
  by_cases n0 : n < 1
  · go_enter Try.func3, Try.ntmps3
    go_wp2_with fail
    go_ret
    exact ⟨rfl, rfl⟩
  by_cases n1 : 4294967296 < n
  · go_enter Try.func3, Try.ntmps3
    go_wp2_with fail
    go_ret
    exact ⟨rfl, rfl⟩
  obtain ⟨r0, r1⟩ := fst_bd h n (by omega) (by omega)
  have hlo := and_low32 h h0 h1
  have lo1 := lo_bd h n (by omega) (by omega)
  have lo2 := fst_st (fst h n) n (by omega) (by omega) r0 r1 (by omega)
  have hi := hi_bd h n (by omega) (by omega)
  have pr := fst_st_pred (fst h n) n (by omega) (by omega)
  have sp := st_pos (fst h n) n (by omega) (by omega)
  obtain ⟨s0, -, -⟩ := st_bd (fst h n) n r0 r1 (by omega)
  have s1 : st (fst h n) n < 4294967296 := by omega
  replace hi : Hid _ := hi
  replace pr : Hid _ := pr
  replace sp : Hid _ := sp
  replace lo2 : Hid _ := lo2
  have rd : decide (fst h n < 0) = false := by simp; omega
  have rd2 : decide (n ≤ fst h n) = false := by simp; omega
  generalize hr : fst h n = r at *
  replace hr : Hid _ := hr
  by_cases c1 : r + 1 < n
  · have hi' := hi.out c1
    generalize hsn : st (r + 1) n = nx at *
    replace hsn : Hid _ := hsn
    by_cases c2 : 0 < r
    · have sp' := sp.out c2 r1
      go_enter Try.func3, Try.ntmps3
      go_wp2_with fail
      refine (first5 h n w h0 h1 (by omega) (by omega)).mono ?_
      rintro e w' ⟨rfl, rfl⟩
      rw [hr.out]
      go_wp2_with fail
      refine (slot6 r n w' r0 r1 (by omega)).mono ?_
      rintro e w2 ⟨rfl, rfl⟩
      generalize hst : st r n = s at *
      go_wp2_with fail
      refine (slot6 (r + 1) n w2 (by omega) c1 (by omega)).mono ?_
      rintro e w3 ⟨rfl, rfl⟩
      rw [hsn.out]
      go_wp2_with fail
      refine (first5 s n w3 s0 (by omega) (by omega) (by omega)).mono ?_
      rintro e w4 ⟨rfl, rfl⟩
      rw [lo2.out]
      go_wp2_with fail
      refine (first5 (s - 1) n w4 (by omega) (by omega) (by omega) (by omega)).mono ?_
      rintro e w5 ⟨rfl, rfl⟩
      rw [pr.out c2 r1 s1]
      go_wp2_with fail
      go_ret
      exact ⟨rfl, rfl⟩
    · have c2' : r = 0 := by omega
      clear c2
      subst c2'
      go_enter Try.func3, Try.ntmps3
      go_wp2_with fail
      refine (first5 h n w h0 h1 (by omega) (by omega)).mono ?_
      rintro e w' ⟨rfl, rfl⟩
      rw [hr.out]
      go_wp2_with fail
      refine (slot6 0 n w' r0 r1 (by omega)).mono ?_
      rintro e w2 ⟨rfl, rfl⟩
      generalize hst : st 0 n = s at *
      go_wp2_with fail
      refine (slot6 (0 + 1) n w2 (by omega) c1 (by omega)).mono ?_
      rintro e w3 ⟨rfl, rfl⟩
      rw [hsn.out]
      go_wp2_with fail
      refine (first5 s n w3 s0 (by omega) (by omega) (by omega)).mono ?_
      rintro e w4 ⟨rfl, rfl⟩
      rw [lo2.out]
      go_wp2_with fail
      go_ret
      exact ⟨rfl, rfl⟩
  · by_cases c2 : 0 < r
    · have sp' := sp.out c2 r1
      go_enter Try.func3, Try.ntmps3
      go_wp2_with fail
      refine (first5 h n w h0 h1 (by omega) (by omega)).mono ?_
      rintro e w' ⟨rfl, rfl⟩
      rw [hr.out]
      go_wp2_with fail
      refine (slot6 r n w' r0 r1 (by omega)).mono ?_
      rintro e w2 ⟨rfl, rfl⟩
      generalize hst : st r n = s at *
      go_wp2_with fail
      refine (first5 s n w2 s0 (by omega) (by omega) (by omega)).mono ?_
      rintro e w4 ⟨rfl, rfl⟩
      rw [lo2.out]
      go_wp2_with fail
      refine (first5 (s - 1) n w4 (by omega) (by omega) (by omega) (by omega)).mono ?_
      rintro e w5 ⟨rfl, rfl⟩
      rw [pr.out c2 r1 s1]
      go_wp2_with fail
      go_ret
      exact ⟨rfl, rfl⟩
    · have c2' : r = 0 := by omega
      clear c2
      subst c2'
      go_enter Try.func3, Try.ntmps3
      go_wp2_with fail
      refine (first5 h n w h0 h1 (by omega) (by omega)).mono ?_
      rintro e w' ⟨rfl, rfl⟩
      rw [hr.out]
      go_wp2_with fail
      refine (slot6 0 n w' r0 r1 (by omega)).mono ?_
      rintro e w2 ⟨rfl, rfl⟩
      generalize hst : st 0 n = s at *
      go_wp2_with fail
      refine (first5 s n w2 s0 (by omega) (by omega) (by omega)).mono ?_
      rintro e w4 ⟨rfl, rfl⟩
      rw [lo2.out]
      go_wp2_with fail
      go_ret
      exact ⟨rfl, rfl⟩
end Go.Proofs.Qxb6612919a
