/-
  DERIVED: THE SHELF's CONTRACTS AT THIS DUMP, IN PLAIN WORDS (tools/lay-plain.mjs out of 'TryShelf.lean', which tools/lay-shelf.mjs wrote): THE SAME DECLARATIONS UNDER THE SAME NAMES: 'import', 'namespace', 'open', 'def', 'theorem' AND NOTHING ELSE: no command of the shelf's: FOR A HAND-IN. Each laying: the table of numbers ('.._ren') and one theorem, a field a fact of the dump's own or the kernel's comparison; each contract: ONE APPLICATION.
-/
import Derived.Shelf.Strings.FieldsFuncAny
import Derived.Test.Qxb6613277aProg
namespace Go.Proofs
open Go.Shelf
def Try.lays229_ren : Go.Shelf.Ren := ⟨fun | 229 => 9 | n => n, fun | 9 => 9 | 40 => 29 | 31 => 24 | 152 => 30 | 3 => 3 | 0 => 0 | 4 => 4 | 21 => 21 | 154 => 32 | n => n, fun | n => n⟩
theorem Try.lays229 : Go.Proofs.Lays.n229 Try.prog Try.lays229_ren := {
  mixed := by kernel_rfl
  f229 := Try.func9.trans (congrArg some (by kernel_rfl))
  t0 := Try.underlying0
  a0 := Try.isAgg0
  z0 := Try.sizeOf0
  v0 := Try.zeroValue0
  t3 := Try.underlying3
  a3 := Try.isAgg3
  z3 := Try.sizeOf3
  v3 := Try.zeroValue3
  t4 := Try.underlying4
  a4 := Try.isAgg4
  z4 := Try.sizeOf4
  v4 := Try.zeroValue4
  t9 := Try.underlying9
  a9 := Try.isAgg9
  z9 := Try.sizeOf9
  v9 := Try.zeroValue9
  t21 := Try.underlying21
  a21 := Try.isAgg21
  z21 := Try.sizeOf21
  v21 := Try.zeroValue21
  t31 := Try.underlying24
  a31 := Try.isAgg24
  z31 := Try.sizeOf24
  v31 := Try.zeroValue24
  t40 := Try.underlying29
  a40 := Try.isAgg29
  z40 := Try.sizeOf29
  v40 := Try.zeroValue29
  t152 := Try.underlying30
  a152 := Try.isAgg30
  z152 := Try.sizeOf30
  v152 := Try.zeroValue30
  t154 := Try.underlying32
  a154 := Try.isAgg32
  z154 := Try.sizeOf32
  v154 := Try.zeroValue32 }
open Go.RowKit Go.Lib in
theorem Try.strings_FieldsFunc_runes (g : Nat) (lb : Array Value) (eg : ∀ args w, (callFunc g args).run Try.prog w = .ok (.enter g args) w) (p : Nat → Bool) (s : ByteArray) (w : World) (hs : s.size ≤ 4294967296) (hp : PredAtRunes Try.prog g lb p w) :
    Calls Try.prog 9 #[.string s, .func (.func g) #[] lb] w fun e w' => ∃ A, e = .returned (.slice (some ⟨A, 0, none⟩) (Lib.goFieldsP p s).length (Lib.goFieldsP p s).length) ∧ w.heap.size ≤ A ∧
      w'.ownsRow w.heap.size 9 1 (.slice (some ⟨A, 0, none⟩) (Lib.goFieldsP p s).length (Lib.goFieldsP p s).length) (Lib.goFieldsP p s).length ((Lib.goFieldsP p s).map Value.string) ∧ Below w.heap.size w w' := Any.strings_FieldsFunc_runes Try.lays229 g lb eg p s w hs hp (by kernel_rfl) (by kernel_rfl)
end Go.Proofs
