import Derived.Test.Qxb6612837aBase
namespace Go.Proofs.Qxb6612837a
open Go.RowKit

/-- A bool comes back; the world is as it was. -/
def BoolPost (w : World) (e : Ending) (w' : World) : Prop := ∃ b : Bool, e = .returned (.bool b) ∧ w' = w

set_option maxRecDepth 100000 in
set_option maxHeartbeats 1000000 in
theorem bytes8 (B : Nat) (xid name status : ByteArray) (code k : Int) (a : Option Addr) (len cap : Nat) (F : Nat → Br) (w : World) (hrow : Row w B a len F) :
    Calls Try.prog 8 #[.string xid, .string name, .string status, .int .i64 code, .slice a len cap, .int .i64 k] w (BoolPost w) := by
  go_enter Try.func8, Try.ntmps8
  go_wp2
  all_goals first | (go_ret; exact ⟨false, rfl, rfl⟩) | skip
  go_loop [13, 14] (fun z i => ∃ (k : Nat) (zz : Int), k ≤ len ∧ i = .int .i64 k ∧ z = .int .i64 zz) (fun _ i => len - (intOf i).toNat)
  case atStart => exact ⟨0, _, Nat.zero_le _, rfl, rfl⟩
  case round =>
    obtain ⟨k, zz, hk, rfl, rfl⟩ := hrel
    by_cases hlt : k < len
    · obtain ⟨b, off, rfl, hbB, hcells⟩ := hrow (by omega)
      obtain ⟨c0, c1, c2, c3, c4, c5⟩ := hcells k hlt
      clear hcells
      go_wp2
      all_goals first | (go_ret; exact ⟨false, rfl, rfl⟩) | skip
      go_round
      case rel => exact ⟨k + 1, _, by omega, by go_num, rfl⟩
      case measure => simp [intOf]; omega
    · go_wp2
      go_ret
      exact ⟨true, rfl, rfl⟩
end Go.Proofs.Qxb6612837a
