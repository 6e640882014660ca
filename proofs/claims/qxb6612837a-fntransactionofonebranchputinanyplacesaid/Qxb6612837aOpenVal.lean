import Derived.Test.Qxb6612837aOpen
import Derived.WideShapes
namespace Go.Proofs.Qxb6612837a
open Go.RowKit Go.WideShapes

set_option maxRecDepth 100000 in
/-- A branch that came in by value. -/
theorem open_value {H : Type} {enc : TypeId × Value → H} {W : World} {r : Reach} {base : Nat} {v : Value} {d : DataW H} {p : List MemPlace} (hv : Value.okWide Try.prog W r base 45 v) (h : DataW.Trod enc Try.prog W 0 (fun _ => true) true 45 v d p) :
    ∃ E : Br, v = .agg #[.int .i64 E.id, .string E.mode, .string E.res, .string E.lock, .string E.stat, .int .i64 E.code] := by
  obtain ⟨cs, rfl, -⟩ := okWide_struct Try.underlying45 hv
  obtain ⟨fuel, hf⟩ := h
  obtain ⟨E, hE⟩ := open_branch hf
  refine ⟨E, ?_⟩
  have : cs.toList = [.int .i64 E.id, .string E.mode, .string E.res, .string E.lock, .string E.stat, .int .i64 E.code] := by simpa [Value.cells] using hE
  obtain rfl : cs = #[.int .i64 E.id, .string E.mode, .string E.res, .string E.lock, .string E.stat, .int .i64 E.code] := Array.toList_inj.1 this
  rfl

end Go.Proofs.Qxb6612837a
