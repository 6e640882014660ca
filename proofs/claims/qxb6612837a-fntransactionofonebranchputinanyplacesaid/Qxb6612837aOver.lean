import Derived.Test.Qxb6612837aBase
namespace Go.Proofs.Qxb6612837a
open Go.RowKit

def OverPost (B g len : Nat) (w : World) (e : Ending) (w' : World) : Prop :=
  ∃ (b : Bool) (y : Int), e = .returned (.bool b) ∧ (b = false → len ≤ 65536) ∧ Below B w w' ∧ w'.cell? ⟨g, 0, none⟩ = some (.int .i64 y) ∧ w'.frozen? ⟨g, 0, none⟩ = false

theorem overview9 (B g : Nat) (x : Int) (xid name status : ByteArray) (a : Option Addr) (len cap : Nat) (F : Nat → Br) (w : World) (hB : B ≤ g)
    (hc : w.cell? ⟨g, 0, none⟩ = some (.int .i64 x)) (hz : w.frozen? ⟨g, 0, none⟩ = false) (hrow : Row w B a len F) :
    Calls Try.prog 9 #[.pointer (some ⟨g, 0, none⟩), .string xid, .string name, .string status, .slice a len cap] w (OverPost B g len w) := by
  by_cases h : 65536 < len
  · go_enter Try.func9, Try.ntmps9
    go_wp2
    go_ret
    exact ⟨true, x, rfl, by simp, Below.refl _ _, hc, hz⟩
  have h' : len ≤ 65536 := by omega
  clear h
  go_enter Try.func9, Try.ntmps9
  go_wp2_with fail
  refine (over15 B g x _ _ hB hc hz).mono ?_
  rintro e w1 ⟨b, y1, rfl, hb1, hc1, hz1⟩
  cases b
  rotate_left
  · go_wp2_with fail
    go_ret
    exact ⟨true, _, rfl, by simp, hb1, hc1, hz1⟩
  go_wp2_with fail
  refine (over15 B g _ _ _ hB hc1 hz1).mono ?_
  rintro e w2 ⟨b, y2, rfl, hb2, hc2, hz2⟩
  replace hb2 := hb1.trans hb2
  clear hb1 hc1 hz1
  cases b
  rotate_left
  · go_wp2_with fail
    go_ret
    exact ⟨true, _, rfl, by simp, hb2, hc2, hz2⟩
  go_wp2_with fail
  refine (over15 B g _ _ _ hB hc2 hz2).mono ?_
  rintro e w3 ⟨b, y3, rfl, hb3, hc3, hz3⟩
  replace hb3 := hb2.trans hb3
  clear hb2 hc2 hz2
  cases b
  rotate_left
  · go_wp2_with fail
    go_ret
    exact ⟨true, _, rfl, by simp, hb3, hc3, hz3⟩
  go_wp2_with fail
  go_loopw [11] (fun i wr => ∃ k : Nat, k ≤ len ∧ i = .int .i64 k ∧ Below B w wr ∧ ∃ y, wr.cell? ⟨g, 0, none⟩ = some (.int .i64 y) ∧ wr.frozen? ⟨g, 0, none⟩ = false) (fun i _ => len - (intOf i).toNat)
  case atStart => exact ⟨0, Nat.zero_le _, rfl, hb3, _, hc3, hz3⟩
  case round =>
    obtain ⟨k, hk, rfl, hbr, y, hcr, hzr⟩ := hrel
    by_cases hlt : k < len
    · obtain ⟨b, off, rfl, hbB, hcells⟩ := hrow (by omega)
      have h6 := hcells k hlt
      clear hcells
      go_wp2_with fail
      refine (over15 B g _ _ _ hB hcr hzr).mono ?_
      rintro e v1 ⟨q, z1, rfl, gb1, gc1, gz1⟩
      replace gb1 := hbr.trans gb1
      clear hbr hcr hzr
      cases q
      rotate_left
      · go_wp2_with fail
        go_ret
        exact ⟨true, _, rfl, by simp, gb1, gc1, gz1⟩
      obtain ⟨c0, c1, c2, c3, c4, c5⟩ := h6.below gb1 hbB
      go_wp2_with fail
      refine (over15 B g _ _ _ hB gc1 gz1).mono ?_
      rintro e v2 ⟨q, z2, rfl, gb2, gc2, gz2⟩
      replace gb2 := gb1.trans gb2
      clear gb1 gc1 gz1 c0 c1 c2 c3 c4 c5
      cases q
      rotate_left
      · go_wp2_with fail
        go_ret
        exact ⟨true, _, rfl, by simp, gb2, gc2, gz2⟩
      obtain ⟨c0, c1, c2, c3, c4, c5⟩ := h6.below gb2 hbB
      go_wp2_with fail
      refine (over15 B g _ _ _ hB gc2 gz2).mono ?_
      rintro e v3 ⟨q, z3, rfl, gb3, gc3, gz3⟩
      replace gb3 := gb2.trans gb3
      clear gb2 gc2 gz2 c0 c1 c2 c3 c4 c5
      cases q
      rotate_left
      · go_wp2_with fail
        go_ret
        exact ⟨true, _, rfl, by simp, gb3, gc3, gz3⟩
      obtain ⟨c0, c1, c2, c3, c4, c5⟩ := h6.below gb3 hbB
      go_wp2_with fail
      refine (over15 B g _ _ _ hB gc3 gz3).mono ?_
      rintro e v4 ⟨q, z4, rfl, gb4, gc4, gz4⟩
      replace gb4 := gb3.trans gb4
      clear gb3 gc3 gz3 c0 c1 c2 c3 c4 c5
      cases q
      rotate_left
      · go_wp2_with fail
        go_ret
        exact ⟨true, _, rfl, by simp, gb4, gc4, gz4⟩
      obtain ⟨c0, c1, c2, c3, c4, c5⟩ := h6.below gb4 hbB
      go_wp2_with fail
      refine (over15 B g _ _ _ hB gc4 gz4).mono ?_
      rintro e v5 ⟨q, z5, rfl, gb5, gc5, gz5⟩
      replace gb5 := gb4.trans gb5
      clear gb4 gc4 gz4 c0 c1 c2 c3 c4 c5
      cases q
      rotate_left
      · go_wp2_with fail
        go_ret
        exact ⟨true, _, rfl, by simp, gb5, gc5, gz5⟩
      go_wp2_with fail
      go_roundw
      case rel => exact ⟨k + 1, by omega, by go_num, gb5, _, gc5, gz5⟩
      case measure => simp [intOf]; omega
    · go_wp2_with fail
      go_ret
      exact ⟨false, _, rfl, fun _ => h', hbr, hcr, hzr⟩
end Go.Proofs.Qxb6612837a
