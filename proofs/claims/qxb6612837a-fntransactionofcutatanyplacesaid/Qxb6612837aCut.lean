import Derived.Test.Qxb6612837aOver
import Derived.Test.Qxb6612837aBytes
import Derived.Test.Qxb6612837aHead
import Derived.Deep.QuietTactic
import Derived.BigQuiet
import Derived.Deep.RegionHeld3
import Derived.Laws.Pointers
namespace Go.Proofs.Qxb6612837a
open Go.RowKit

set_option maxRecDepth 100000 in
set_option maxHeartbeats 2000000 in
theorem cut_some (xid name status : ByteArray) (code k : Int) (x : Addr) (len cap : Nat) (F : Nat → Br) (w : World) (hlc : len ≤ cap) (hrow : Row w w.heap.size (some x) len F) :
    Calls Try.prog 3 #[.string xid, .string name, .string status, .int .i64 code, .slice (some x) len cap, .int .i64 k] w (LawPost w) := by
  go_enter Try.func3, Try.ntmps3
  go_wp2_with fail
  refine (bytes8 w.heap.size xid name status code k (some x) len cap F w hrow).mono ?_
  rintro e w1 ⟨b, rfl, rfl⟩
  cases b
  · go_wp2_with fail
    go_ret
    exact ⟨rfl, Below.refl _ _⟩
  go_wp2_with fail
  refine (overview9 w1.heap.size w1.heap.size 0 xid name status (some x) len cap F _ (Nat.le_refl _) ?_ ?_ ?_).mono ?_
  · simp
  · simp
  · exact hrow.below ((Below.refl _ _).alloc (Nat.le_refl _) _) (Nat.le_refl _)
  rintro e w2 ⟨b, y, rfl, hlen, hb2, -, -⟩
  replace hb2 := ((Below.refl _ w1).alloc (Nat.le_refl _) _).trans hb2
  cases b
  rotate_left
  · go_wp2_with fail
    go_ret
    exact ⟨rfl, hb2⟩
  replace hlen := hlen rfl
  by_cases hk0 : k < 0
  · go_wp2_with fail
    go_ret
    exact ⟨rfl, hb2⟩
  obtain ⟨k, rfl⟩ := Int.eq_ofNat_of_zero_le (show 0 ≤ k by omega)
  by_cases hk1 : len < k
  · go_wp2_with fail
    go_ret
    exact ⟨rfl, hb2⟩
  have hkd : decide ((k : Int) < 0) = false := by simp
  obtain ⟨A, hA, hsl⟩ := from22 x len cap k (by omega)
  replace hA : Hid _ := hA
  clear hk0
  go_wp2_with fail
  refine (view11 xid name status code (some x) len cap F w2 (by omega) (hrow.below hb2 hb2.size) (by simp)).mono ?_
  rintro e w3 ⟨hb3, ⟨hx, -⟩ | ⟨-, g3, rfl, hg3, hg3', hl3⟩⟩
  · simp at hx
  go_wp2_with fail
  refine (tx10 xid name status code (some ⟨g3, 0, none⟩) len len F w3 (by omega) (row_of_lies hl3 hg3') (by simp)).mono ?_
  rintro e w4 ⟨hb4, ⟨hx, -⟩ | ⟨-, g4, rfl, hg4, hg4', hl4⟩⟩
  · simp at hx
  have V := Var.new (xid := xid) (name := name) (code := code) hg4' hl4
  have hb5 := (hb2.trans (hb3.mono hb2.size)).trans (hb4.mono (Nat.le_trans hb2.size hb3.size))
  clear hb3 hb4 hl3 hl4 hg3 hg3' hg4 hg4'
  go_wp2_with fail
  have hb6 := hb5.alloc hb5.size (.cells #[.string xid, .string name, .int .i64 code, .slice (some ⟨g4, 0, none⟩) len len] 29)
  refine (view11 xid name status code (some x) k cap F _ (by omega) ((hrow.below hb6 hb6.size).take (by omega)) (by simp)).mono ?_
  rintro e w7 ⟨hb7, ⟨hx, -⟩ | ⟨-, g7, rfl, hg7, hg7', hl7⟩⟩
  · simp at hx
  go_wp2_with fail
  refine (tx10 xid name status code (some ⟨g7, 0, none⟩) k k F w7 (by omega) (row_of_lies hl7 hg7') (by simp)).mono ?_
  rintro e w8 ⟨hb8, ⟨hx, -⟩ | ⟨-, g8, rfl, hg8, hg8', hl8⟩⟩
  · simp at hx
  replace V := (V.below hb7).below hb8
  have L := Var.new (xid := xid) (name := name) (code := code) hg8' hl8
  have hb9 := (hb6.trans (hb7.mono hb6.size)).trans (hb8.mono (Nat.le_trans hb6.size hb7.size))
  clear hb5 hb6 hb7 hb8 hl7 hl8 hg7 hg7' hg8 hg8'
  go_wp2_with fail
  have hb10 := hb9.alloc hb9.size (.cells #[.string xid, .string name, .int .i64 code, .slice (some ⟨g8, 0, none⟩) k k] 29)
  refine (view11 xid name status code (some A) (len - k) (cap - k) (fun i => F (k + i)) _ (by omega) (row_from (hrow.below hb10 hb10.size) hlc (by omega) hA.out) (by simp)).mono ?_
  rintro e w11 ⟨hb11, ⟨hx, -⟩ | ⟨-, g11, rfl, hg11, hg11', hl11⟩⟩
  · simp at hx
  go_wp2_with fail
  refine (tx10 xid name status code (some ⟨g11, 0, none⟩) (len - k) (len - k) (fun i => F (k + i)) w11 (by omega) (row_of_lies hl11 hg11') (by simp)).mono ?_
  rintro e w12 ⟨hb12, ⟨hx, -⟩ | ⟨-, g12, rfl, hg12, hg12', hl12⟩⟩
  · simp at hx
  replace V := ((V.below ((Below.refl _ _).alloc (Nat.le_refl _) _)).below hb11).below hb12
  replace L := (L.below hb11).below hb12
  have R := Var.new (xid := xid) (name := name) (code := code) hg12' hl12
  replace V := V.below ((Below.refl _ _).alloc (Nat.le_refl _) (.cells #[.string xid, .string name, .int .i64 code, .slice (some ⟨g12, 0, none⟩) (len - k) (len - k)] 29))
  replace L := L.below ((Below.refl _ _).alloc (Nat.le_refl _) (.cells #[.string xid, .string name, .int .i64 code, .slice (some ⟨g12, 0, none⟩) (len - k) (len - k)] 29))
  have hb13 := (hb10.trans (hb11.mono hb10.size)).trans (hb12.mono (Nat.le_trans hb10.size hb11.size))
  replace hb13 := hb13.alloc hb13.size (.cells #[.string xid, .string name, .int .i64 code, .slice (some ⟨g12, 0, none⟩) (len - k) (len - k)] 29)
  clear hb9 hb10 hb11 hb12 hl11 hl12 hg11 hg11' hg12 hg12' hsl hA
  obtain ⟨v0, v1, v2, v3⟩ := V.cells
  obtain ⟨l0, l1, l2, l3⟩ := L.cells
  go_wp2_with fail
  refine (head12 xid name code _ ⟨_, _, _, rfl⟩ _).mono ?_
  rintro e w14 ⟨rfl, hb14⟩
  clear v0 v1 v2 v3 l0 l1 l2 l3
  replace V := V.below hb14
  replace L := L.below hb14
  replace R := R.below hb14
  replace hb14 := hb13.trans (hb14.mono hb13.size)
  clear hb13
  obtain ⟨l0, l1, l2, l3⟩ := L.cells
  go_wp2_with fail
  refine (head12 xid name code _ ⟨_, _, _, rfl⟩ _).mono ?_
  rintro e w15 ⟨rfl, hb15⟩
  clear l0 l1 l2 l3
  replace V := V.below hb15
  replace L := L.below hb15
  replace R := R.below hb15
  replace hb15 := hb14.trans (hb15.mono hb14.size)
  clear hb14
  obtain ⟨r0, r1, r2, r3⟩ := R.cells
  go_wp2_with fail
  refine (head12 xid name code _ ⟨_, _, _, rfl⟩ _).mono ?_
  rintro e w16 ⟨rfl, hb16⟩
  clear r0 r1 r2 r3
  replace V := V.below hb16
  replace L := L.below hb16
  replace R := R.below hb16
  replace hb16 := hb15.trans (hb16.mono hb15.size)
  clear hb15
  obtain ⟨v0, v1, v2, v3⟩ := V.cells
  obtain ⟨l0, l1, l2, l3⟩ := L.cells
  obtain ⟨r0, r1, r2, r3⟩ := R.cells
  have q27 := fun (w : World) (a : Option Addr) (n c : Nat) => Lib.run_eql_slice_nil (P := Try.prog) w 27 42 a n c 0 0 Try.underlying27
  have q22 := fun (w : World) (a : Option Addr) (n c : Nat) => Lib.run_eql_slice_nil (P := Try.prog) w 22 45 a n c 0 0 Try.underlying22
  go_wp2_with fail
  go_loopw [17] (fun i wr => ∃ j : Nat, j ≤ k ∧ i = .int .i64 j ∧ ∃ n, wr = w16.drewN n) (fun i _ => k - (intOf i).toNat)
  case atStart => exact ⟨0, Nat.zero_le _, rfl, 0, rfl⟩
  case round =>
    obtain ⟨j, hj, rfl, n, rfl⟩ := hrel
    by_cases hlt : j < k
    · obtain ⟨a0, a1, a2, a3, a4⟩ := V.at (i := j) (by omega)
      obtain ⟨b0, b1, b2, b3, b4⟩ := L.at (i := j) hlt
      have i1 : (0 : Int) ≤ (j : Int) := by omega
      have i2 : (j : Int) < (len : Int) := by omega
      have i3 : (j : Int) < (k : Int) := by omega
      go_wp2_with fail
      go_quiet (fail)
      go_wp2_with fail
      go_roundw
      case rel => exact ⟨j + 1, by omega, by go_num, n + nq, rfl⟩
      case measure => simp [intOf]; omega
    · have hjk : j = k := by omega
      subst hjk
      go_wp2_with fail
      go_loopw [18] (fun i wr => ∃ d : Nat, j + d ≤ len ∧ i = .int .i64 ((j + d : Nat) : Int) ∧ ∃ n, wr = w16.drewN n) (fun i _ => len - (intOf i).toNat)
      case atStart => exact ⟨0, by omega, rfl, n, rfl⟩
      case round =>
        obtain ⟨d, hd, rfl, n2, rfl⟩ := hrel
        by_cases hlt2 : j + d < len
        · obtain ⟨a0, a1, a2, a3, a4⟩ := V.at (i := j + d) hlt2
          obtain ⟨b0, b1, b2, b3, b4⟩ := R.at (i := d) (by omega)
          have i1 : (0 : Int) ≤ ((j + d : Nat) : Int) := by omega
          have i2 : ((j + d : Nat) : Int) < (len : Int) := by omega
          have i3 : (0 : Int) ≤ (d : Int) := by omega
          have i4 : (d : Int) < ((len - j : Nat) : Int) := by omega
          go_wp2_with fail
          go_quiet (fail)
          go_wp2_with fail
          go_roundw
          case rel => exact ⟨d + 1, by omega, by go_num, n2 + nq, rfl⟩
          case measure => simp [intOf]; omega
        · clear v0 v1 v2 l0 l1 l2 l3 r0 r1 r2 r3 q27 q22
          by_cases hkl : j < len
          · obtain ⟨a0, a1, a2, a3, a4⟩ := V.at (i := j) hkl
            obtain ⟨b, off, hab, hbB, hcells⟩ := hrow (by omega)
            obtain rfl : x = ⟨b, off, none⟩ := by simpa using hab
            obtain ⟨c0, c1, c2, c3, c4, c5⟩ := (hcells j hkl).below hb16 hbB
            have i1 : (0 : Int) ≤ (j : Int) := by omega
            have i2 : (j : Int) < (len : Int) := by omega
            have s1 := V.2.1
            have s2 := V.2.2.1
            have s3 : b < w16.heap.size := Nat.lt_of_lt_of_le hbB hb16.size
            clear V L R hrow hcells hab
            go_wp2_with fail
            go_region_held3 (fun w' => w'.cell? ⟨w4.heap.size, 3, none⟩ = some (.slice (some ⟨g4, 0, none⟩) len len) ∧ w'.cell? ⟨g4, j * 5, none⟩ = some (.int .i64 (F j).id) ∧ w'.cell? ⟨g4, j * 5 + 1, none⟩ = some (.string (F j).mode) ∧ w'.cell? ⟨g4, j * 5 + 2, none⟩ = some (.string (F j).res) ∧ w'.cell? ⟨g4, j * 5 + 3, none⟩ = some (.string (F j).lock) ∧ w'.cell? ⟨g4, j * 5 + 4, none⟩ = some (.int .i64 (F j).code) ∧
                w'.cell? ⟨b, off + j * 6, none⟩ = some (.int .i64 (F j).id) ∧ w'.cell? ⟨b, off + j * 6 + 1, none⟩ = some (.string (F j).mode) ∧ w'.cell? ⟨b, off + j * 6 + 2, none⟩ = some (.string (F j).res) ∧ w'.cell? ⟨b, off + j * 6 + 3, none⟩ = some (.string (F j).lock) ∧ w'.cell? ⟨b, off + j * 6 + 4, none⟩ = some (.string (F j).stat) ∧ w'.cell? ⟨b, off + j * 6 + 5, none⟩ = some (.int .i64 (F j).code))
              (first | (simp [*]; done) | (refine ⟨?_, ?_, ?_, ?_, ?_, ?_, ?_, ?_, ?_, ?_, ?_, ?_⟩ <;> exact kept2 (by simp [*]) (by simpa using by assumption)))
              (first | (go_at_call 13; refine (branch13 (F j) _).mono ?_; rintro e w' ⟨rfl, rfl⟩))
            all_goals go_wp2_with fail
            all_goals go_ret
            exact ⟨rfl, ((hb16.trans (below_drewN w16 _ _)).alloc (by exact hb16.size) _).alloc (by simp; have := hb16.size; omega) _⟩
          · have i2 : decide ((j : Int) < (len : Int)) = false := by simp; omega
            go_wp2_with fail
            go_quiet (fail)
            go_wp2_with fail
            go_ret
            exact ⟨rfl, (hb16.trans (below_drewN w16 _ n2)).trans (below_drewN _ _ nq)⟩
end Go.Proofs.Qxb6612837a
