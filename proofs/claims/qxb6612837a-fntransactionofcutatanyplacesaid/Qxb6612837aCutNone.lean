import Derived.Test.Qxb6612837aOver
import Derived.Test.Qxb6612837aBytes
import Derived.Test.Qxb6612837aHead
import Derived.Deep.QuietTactic
import Derived.BigQuiet
import Derived.Deep.RegionHeld3
import Derived.Laws.Pointers
namespace Go.Proofs.Qxb6612837a
open Go.RowKit

set_option maxRecDepth 100000 in
set_option maxHeartbeats 2000000 in
theorem cut_none (xid name status : ByteArray) (code k : Int) (F : Nat → Br) (w : World) :
    Calls Try.prog 3 #[.string xid, .string name, .string status, .int .i64 code, .slice none 0 0, .int .i64 k] w (LawPost w) := by
  have hrow : ∀ w B, Row w B none 0 F := fun _ _ h => absurd h (Nat.lt_irrefl 0)
  go_enter Try.func3, Try.ntmps3
  go_wp2_with fail
  refine (bytes8 w.heap.size xid name status code k none 0 0 F w (hrow _ _)).mono ?_
  rintro e w1 ⟨b, rfl, rfl⟩
  cases b
  · go_wp2_with fail
    go_ret
    exact ⟨rfl, Below.refl _ _⟩
  go_wp2_with fail
  refine (overview9 w1.heap.size w1.heap.size 0 xid name status none 0 0 F _ (Nat.le_refl _) ?_ ?_ (hrow _ _)).mono ?_
  · simp
  · simp
  rintro e w2 ⟨b, y, rfl, hlen, hb2, -, -⟩
  replace hb2 := ((Below.refl _ w1).alloc (Nat.le_refl _) _).trans hb2
  clear hlen
  cases b
  rotate_left
  · go_wp2_with fail
    go_ret
    exact ⟨rfl, hb2⟩
  by_cases hk0 : k < 0
  · go_wp2_with fail
    go_ret
    exact ⟨rfl, hb2⟩
  by_cases hk1 : 0 < k
  · go_wp2_with fail
    go_ret
    exact ⟨rfl, hb2⟩
  obtain rfl : k = 0 := by omega
  clear hk0 hk1
  go_wp2_with fail
  refine (view11 xid name status code none 0 0 F w2 (by omega) (hrow _ _) (by simp)).mono ?_
  rintro e w3 ⟨hb3, ⟨-, rfl⟩ | ⟨hx, -⟩⟩
  rotate_left
  · exact absurd rfl hx
  go_wp2_with fail
  refine (tx10 xid name status code none 0 0 F w3 (by omega) (hrow _ _) (by simp)).mono ?_
  rintro e w4 ⟨hb4, ⟨-, rfl⟩ | ⟨hx, -⟩⟩
  rotate_left
  · exact absurd rfl hx
  have V := NVar.new w4 xid name code
  have hb5 := (hb2.trans (hb3.mono hb2.size)).trans (hb4.mono (Nat.le_trans hb2.size hb3.size))
  clear hb2 hb3 hb4
  replace hb5 := hb5.alloc hb5.size (.cells #[.string xid, .string name, .int .i64 code, .slice none 0 0] 29)
  go_wp2_with fail
  refine (view11 xid name status code none 0 0 F _ (by omega) (hrow _ _) (by simp)).mono ?_
  rintro e w7 ⟨hb7, ⟨-, rfl⟩ | ⟨hx, -⟩⟩
  rotate_left
  · exact absurd rfl hx
  go_wp2_with fail
  refine (tx10 xid name status code none 0 0 F w7 (by omega) (hrow _ _) (by simp)).mono ?_
  rintro e w8 ⟨hb8, ⟨-, rfl⟩ | ⟨hx, -⟩⟩
  rotate_left
  · exact absurd rfl hx
  have L := NVar.new w8 xid name code
  replace V := ((V.below hb7).below hb8).below ((Below.refl _ _).alloc (Nat.le_refl _) (.cells #[.string xid, .string name, .int .i64 code, .slice none 0 0] 29))
  have hb9 := (hb5.trans (hb7.mono hb5.size)).trans (hb8.mono (Nat.le_trans hb5.size hb7.size))
  clear hb5 hb7 hb8
  replace hb9 := hb9.alloc hb9.size (.cells #[.string xid, .string name, .int .i64 code, .slice none 0 0] 29)
  go_wp2_with fail
  refine (view11 xid name status code none 0 0 F _ (by omega) (hrow _ _) (by simp)).mono ?_
  rintro e w11 ⟨hb11, ⟨-, rfl⟩ | ⟨hx, -⟩⟩
  rotate_left
  · exact absurd rfl hx
  go_wp2_with fail
  refine (tx10 xid name status code none 0 0 F w11 (by omega) (hrow _ _) (by simp)).mono ?_
  rintro e w12 ⟨hb12, ⟨-, rfl⟩ | ⟨hx, -⟩⟩
  rotate_left
  · exact absurd rfl hx
  have R := NVar.new w12 xid name code
  replace V := ((V.below hb11).below hb12).below ((Below.refl _ _).alloc (Nat.le_refl _) (.cells #[.string xid, .string name, .int .i64 code, .slice none 0 0] 29))
  replace L := ((L.below hb11).below hb12).below ((Below.refl _ _).alloc (Nat.le_refl _) (.cells #[.string xid, .string name, .int .i64 code, .slice none 0 0] 29))
  have hb13 := (hb9.trans (hb11.mono hb9.size)).trans (hb12.mono (Nat.le_trans hb9.size hb11.size))
  clear hb9 hb11 hb12
  replace hb13 := hb13.alloc hb13.size (.cells #[.string xid, .string name, .int .i64 code, .slice none 0 0] 29)
  obtain ⟨v0, v1, v2, v3⟩ := V.cells
  go_wp2_with fail
  refine (head12 xid name code _ ⟨_, _, _, rfl⟩ _).mono ?_
  rintro e w14 ⟨rfl, hb14⟩
  clear v0 v1 v2 v3
  replace V := V.below hb14
  replace L := L.below hb14
  replace R := R.below hb14
  replace hb14 := hb13.trans (hb14.mono hb13.size)
  clear hb13
  obtain ⟨l0, l1, l2, l3⟩ := L.cells
  go_wp2_with fail
  refine (head12 xid name code _ ⟨_, _, _, rfl⟩ _).mono ?_
  rintro e w15 ⟨rfl, hb15⟩
  clear l0 l1 l2 l3
  replace V := V.below hb15
  replace L := L.below hb15
  replace R := R.below hb15
  replace hb15 := hb14.trans (hb15.mono hb14.size)
  clear hb14
  obtain ⟨r0, r1, r2, r3⟩ := R.cells
  go_wp2_with fail
  refine (head12 xid name code _ ⟨_, _, _, rfl⟩ _).mono ?_
  rintro e w16 ⟨rfl, hb16⟩
  clear r0 r1 r2 r3
  replace V := V.below hb16
  replace L := L.below hb16
  replace R := R.below hb16
  replace hb16 := hb15.trans (hb16.mono hb15.size)
  clear hb15
  obtain ⟨v0, v1, v2, v3⟩ := V.cells
  obtain ⟨l0, l1, l2, l3⟩ := L.cells
  obtain ⟨r0, r1, r2, r3⟩ := R.cells
  have q27 := fun (w : World) (a : Option Addr) (n c : Nat) => Lib.run_eql_slice_nil (P := Try.prog) w 27 42 a n c 0 0 Try.underlying27
  have q22 := fun (w : World) (a : Option Addr) (n c : Nat) => Lib.run_eql_slice_nil (P := Try.prog) w 22 45 a n c 0 0 Try.underlying22
  go_wp2_with fail
  go_loop [17] (fun i => i = .int .i64 0) (fun _ => 0)
  case atStart => rfl
  case round =>
    obtain rfl := hrel
    go_wp2_with fail
    go_loop [18] (fun i => i = .int .i64 0) (fun _ => 0)
    case atStart => rfl
    case round =>
      obtain rfl := hrel
      go_wp2_with fail
      go_quiet (fail)
      go_wp2_with fail
      go_ret
      exact ⟨rfl, hb16.trans (below_drewN w16 _ _)⟩
end Go.Proofs.Qxb6612837a
