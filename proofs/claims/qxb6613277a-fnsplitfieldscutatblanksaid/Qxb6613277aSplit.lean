import Derived.Test.Qxb6613277aRows
import Derived.WalkKit
import Derived.ProofKit
import Derived.WalkSpells
import Derived.Below
import Derived.Test.Qxb6613277aRunes
import Derived.Test.Qxb6613277aShelf
namespace Go.Proofs.Qxb6613277a
open Go.RowKit Go.Shelf Go.Lib
set_option linter.unusedVariables false

theorem bytes4 (s : ByteArray) (i : Int) (w : World) :
    Calls Try.prog 4 #[.string s, .int .i64 i] w fun e w' => e = .returned (.bool (decide (s.size ≤ 1048576))) ∧ w' = w := by
  by_cases h : 1048576 < s.size
  · have hd : Hid _ := decide_eq_false (p := s.size ≤ 1048576) (by omega)
    go_enter Try.func4, Try.ntmps4
    go_wp2_with fail
    go_ret
    exact ⟨congrArg (fun b => Ending.returned (.bool b)) hd.out.symm, rfl⟩
  · have hd : Hid _ := decide_eq_true (p := s.size ≤ 1048576) (by omega)
    go_enter Try.func4, Try.ntmps4
    go_wp2_with fail
    go_ret
    exact ⟨congrArg (fun b => Ending.returned (.bool b)) hd.out.symm, rfl⟩

theorem blank_int (c : UInt8) : blank c = ((c.toNat : Int) == 32 || (c.toNat : Int) == 9) := by
  rw [blank_nat]
  have h1 : (c.toNat == 32) = ((c.toNat : Int) == 32) := by rw [Bool.eq_iff_iff]; simp; omega
  have h2 : (c.toNat == 9) = ((c.toNat : Int) == 9) := by rw [Bool.eq_iff_iff]; simp; omega
  rw [h1, h2]

theorem blank5 (c : UInt8) (w : World) :
    Calls Try.prog 5 #[.int .u8 c.toNat] w fun e w' => e = .returned (.bool (blank c)) ∧ w' = w := by
  by_cases h1 : (c.toNat : Int) = 32
  · have hd : Hid (blank c = true) := by unfold Hid; rw [blank_int, h1]; rfl
    go_enter Try.func5, Try.ntmps5
    go_wp2
    go_ret
    exact ⟨congrArg (fun b => Ending.returned (.bool b)) hd.out.symm, rfl⟩
  · by_cases h2 : (c.toNat : Int) = 9
    · have hd : Hid (blank c = true) := by unfold Hid; rw [blank_int, h2]; rfl
      go_enter Try.func5, Try.ntmps5
      go_wp2
      go_ret
      exact ⟨congrArg (fun b => Ending.returned (.bool b)) hd.out.symm, rfl⟩
    · have hd : Hid _ := blank_int c
      go_enter Try.func5, Try.ntmps5
      go_wp2
      go_ret
      exact ⟨congrArg (fun b => Ending.returned (.bool b)) hd.out.symm, rfl⟩

theorem sep_int (x : Nat) : sep x = ((x : Int) == 32 || (x : Int) == 9) := by
  have h1 : (x == 32) = ((x : Int) == 32) := by rw [Bool.eq_iff_iff]; simp; omega
  have h2 : (x == 9) = ((x : Int) == 9) := by rw [Bool.eq_iff_iff]; simp; omega
  rw [sep, h1, h2]

theorem clos10 (w : World) : PredAtRunes Try.prog 10 #[] sep w := by
  intro W x hx hb
  show Calls Try.prog 10 #[.int .i32 (x : Int)] W _
  by_cases h1 : (x : Int) = 32
  · have hd : Hid (sep x = true) := by unfold Hid sep; simp; omega
    go_enter Try.func10, Try.ntmps10
    go_wp2
    go_ret
    exact ⟨congrArg (fun b => Ending.returned (.bool b)) hd.out.symm, 0, rfl⟩
  · by_cases h2 : (x : Int) = 9
    · have hd : Hid (sep x = true) := by unfold Hid sep; simp; omega
      go_enter Try.func10, Try.ntmps10
      go_wp2
      go_ret
      exact ⟨congrArg (fun b => Ending.returned (.bool b)) hd.out.symm, 0, rfl⟩
    · have hd : Hid _ := sep_int x
      go_enter Try.func10, Try.ntmps10
      go_wp2
      go_ret
      exact ⟨congrArg (fun b => Ending.returned (.bool b)) hd.out.symm, 0, rfl⟩

/-- What a call of splitFields hands back. -/
def SplitPost (L : List (List UInt8)) (w : World) (e : Ending) (w' : World) : Prop :=
  ∃ A, e = .returned (.slice (some ⟨A, 0, none⟩) L.length L.length) ∧ w.heap.size ≤ A ∧
    w'.ownsRow w.heap.size 9 1 (.slice (some ⟨A, 0, none⟩) L.length L.length) L.length (L.map fun l => Value.string ⟨l.toArray⟩) ∧ Below w.heap.size w w'

theorem split9 (s : ByteArray) (w : World) (hs : s.size ≤ 1048576) :
    Calls Try.prog 9 #[.string s, .func (.func 10) #[] #[]] w (SplitPost (fieldsL s.data.toList) w) := by
  refine (Try.strings_FieldsFunc_runes 10 #[] (enters_of Try.func10 (by kernel_rfl) rfl) sep s w (by omega) (clos10 w)).mono ?_
  rintro e w' ⟨A, he, hA, hown, hb⟩
  rw [fields_eq] at he hown
  simp only [List.length_map, List.map_map] at he hown
  exact ⟨A, he, hA, hown, hb⟩

theorem split8 (s : ByteArray) (w : World) (hs : s.size ≤ 1048576) :
    Calls Try.prog 8 #[.string s] w (SplitPost (fieldsL s.data.toList) w) := by
  go_enter Try.func8, Try.ntmps8
  go_wp2_with fail
  refine (split9 s w hs).mono ?_
  rintro e w' ⟨A, rfl, hA, hown, hb⟩
  go_wp2_with fail
  go_ret
  exact ⟨A, rfl, hA, hown, hb⟩

theorem split6 (s : ByteArray) (w : World) (hs : s.size ≤ 1048576) :
    Calls Try.prog 6 #[.string s] w (SplitPost (fieldsL s.data.toList) w) := by
  go_enter Try.func6, Try.ntmps6
  go_wp2_with fail
  refine (split8 s w hs).mono ?_
  rintro e w' ⟨A, rfl, hA, hown, hb⟩
  go_wp2_with fail
  go_ret
  exact ⟨A, rfl, hA, hown, hb⟩
end Go.Proofs.Qxb6613277a
