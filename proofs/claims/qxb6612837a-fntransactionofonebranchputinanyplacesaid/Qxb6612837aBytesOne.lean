import Derived.Test.Qxb6612837aBase
namespace Go.Proofs.Qxb6612837a
open Go.RowKit

/-- A bool comes back; nothing that was there has turned. -/
def SomeBool (w : World) (e : Ending) (w' : World) : Prop := ∃ b : Bool, e = .returned (.bool b) ∧ Below w.heap.size w w'

set_option maxRecDepth 100000 in
set_option maxHeartbeats 2000000 in
theorem bytes14 (xid name status : ByteArray) (code k : Int) (a : Option Addr) (len cap : Nat) (F : Nat → Br) (E : Br) (w : World) (hrow : Row w w.heap.size a len F) :
    Calls Try.prog 14 #[.string xid, .string name, .string status, .int .i64 code, .slice a len cap, .int .i64 k, .agg #[.int .i64 E.id, .string E.mode, .string E.res, .string E.lock, .string E.stat, .int .i64 E.code]] w (SomeBool w) := by
  go_enter Try.func14, Try.ntmps14
  go_wp2
  all_goals first | (go_ret; exact ⟨false, rfl, (Below.refl _ _).alloc (Nat.le_refl _) _⟩) | skip
  go_loop [15, 16] (fun z i => ∃ (k : Nat) (zz : Int), k ≤ len ∧ i = .int .i64 k ∧ z = .int .i64 zz) (fun _ i => len - (intOf i).toNat)
  case atStart => exact ⟨0, _, Nat.zero_le _, rfl, rfl⟩
  case round =>
    obtain ⟨k, zz, hk, rfl, rfl⟩ := hrel
    by_cases hlt : k < len
    · obtain ⟨b, off, rfl, hbB, hcells⟩ := hrow (by omega)
      obtain ⟨c0, c1, c2, c3, c4, c5⟩ := hcells k hlt
      clear hcells
      go_wp2
      all_goals first | (go_ret; exact ⟨false, rfl, (Below.refl _ _).alloc (Nat.le_refl _) _⟩) | skip
      go_round
      case rel => exact ⟨k + 1, _, by omega, by go_num, rfl⟩
      case measure => simp [intOf]; omega
    · go_wp2
      all_goals (go_ret; exact ⟨_, rfl, (Below.refl _ _).alloc (Nat.le_refl _) _⟩)
end Go.Proofs.Qxb6612837a
