import Derived.Test.Qxb6612837aOne
namespace Go.Proofs.Qxb6612837a
open Go.RowKit

theorem make22_0 (w : World) :
    (Instr.makeSlice 22 (.int .i64 0) (.int .i64 1)).run Try.prog w = .ok (.slice (some ⟨w.heap.size, 0, none⟩) 0 1) (w.alloc (.cells (mk45 1) 45)) := by
  have := make22 0 (by omega) w
  simpa using this

set_option maxRecDepth 100000 in
set_option maxHeartbeats 2000000 in
theorem one_none (xid name status : ByteArray) (code p : Int) (F : Nat → Br) (E : Br) (w : World) :
    Calls Try.prog 4 #[.string xid, .string name, .string status, .int .i64 code, .slice none 0 0, .int .i64 p, .agg #[.int .i64 E.id, .string E.mode, .string E.res, .string E.lock, .string E.stat, .int .i64 E.code]] w (LawPost w) := by
  have hb0 := (Below.refl w.heap.size w).alloc (Nat.le_refl _) (.cells #[.int .i64 E.id, .string E.mode, .string E.res, .string E.lock, .string E.stat, .int .i64 E.code] 45)
  have hE := six_new w E
  have hrow : ∀ w B, Row w B none 0 F := fun _ _ h => absurd h (Nat.lt_irrefl 0)
  go_enter Try.func4, Try.ntmps4
  go_wp2_with fail
  refine (bytes14 xid name status code p none 0 0 F E _ (hrow _ _)).mono ?_
  rintro e w1 ⟨b, rfl, hb1⟩
  replace hE := hE.below hb1 (by simp)
  have hz1 : w.heap.size < w1.heap.size := by have := hb1.size; simp at this; omega
  replace hb1 := hb0.trans (hb1.mono (by simp))
  clear hb0
  cases b
  · go_wp2_with fail
    go_ret
    exact ⟨rfl, hb1⟩
  go_wp2_with fail
  have hv0 := (Below.refl w1.heap.size w1).alloc (Nat.le_refl _) (.cells #[.int .i64 0] 3)
  refine (over15 w1.heap.size w1.heap.size 0 _ _ (Nat.le_refl _) (by simp) (by simp)).mono ?_
  rintro e v1 ⟨b, y1, rfl, g1, k1, z1⟩
  replace g1 := hv0.trans g1
  clear hv0
  cases b
  rotate_left
  · go_wp2_with fail
    go_ret
    exact ⟨rfl, hb1.trans (g1.mono (by omega))⟩
  obtain ⟨c0, c1, c2, c3, c4, c5⟩ := six0 (hE.below g1 hz1)
  go_wp2_with fail
  refine (over15 w1.heap.size w1.heap.size _ _ _ (Nat.le_refl _) k1 z1).mono ?_
  rintro e v2 ⟨b, y2, rfl, g2, k2, z2⟩
  replace g2 := g1.trans g2
  clear g1 k1 z1 c0 c1 c2 c3 c4 c5
  cases b
  rotate_left
  · go_wp2_with fail
    go_ret
    exact ⟨rfl, hb1.trans (g2.mono (by omega))⟩
  obtain ⟨c0, c1, c2, c3, c4, c5⟩ := six0 (hE.below g2 hz1)
  go_wp2_with fail
  refine (over15 w1.heap.size w1.heap.size _ _ _ (Nat.le_refl _) k2 z2).mono ?_
  rintro e v3 ⟨b, y3, rfl, g3, k3, z3⟩
  replace g3 := g2.trans g3
  clear g2 k2 z2 c0 c1 c2 c3 c4 c5
  cases b
  rotate_left
  · go_wp2_with fail
    go_ret
    exact ⟨rfl, hb1.trans (g3.mono (by omega))⟩
  obtain ⟨c0, c1, c2, c3, c4, c5⟩ := six0 (hE.below g3 hz1)
  go_wp2_with fail
  refine (over15 w1.heap.size w1.heap.size _ _ _ (Nat.le_refl _) k3 z3).mono ?_
  rintro e v4 ⟨b, y4, rfl, g4, k4, z4⟩
  replace g4 := g3.trans g4
  clear g3 k3 z3 c0 c1 c2 c3 c4 c5
  cases b
  rotate_left
  · go_wp2_with fail
    go_ret
    exact ⟨rfl, hb1.trans (g4.mono (by omega))⟩
  obtain ⟨c0, c1, c2, c3, c4, c5⟩ := six0 (hE.below g4 hz1)
  go_wp2_with fail
  refine (over15 w1.heap.size w1.heap.size _ _ _ (Nat.le_refl _) k4 z4).mono ?_
  rintro e v5 ⟨b, y5, rfl, g5, k5, z5⟩
  replace g5 := g4.trans g5
  clear g4 k4 z4 c0 c1 c2 c3 c4 c5
  cases b
  rotate_left
  · go_wp2_with fail
    go_ret
    exact ⟨rfl, hb1.trans (g5.mono (by omega))⟩
  go_wp2_with fail
  refine (overview9 w1.heap.size w1.heap.size _ xid name status none 0 0 F _ (Nat.le_refl _) k5 z5 (hrow _ _)).mono ?_
  rintro e v6 ⟨b, y, rfl, hlen, g6, -, -⟩
  replace g6 := g5.trans g6
  clear g5 k5 z5
  replace hE := hE.below g6 hz1
  have hz6 := g6.size
  have hb6 := hb1.trans (g6.mono (by omega))
  clear hb1 g6
  cases b
  rotate_left
  · go_wp2_with fail
    go_ret
    exact ⟨rfl, hb6⟩
  clear hlen
  by_cases hk0 : p < 0
  · go_wp2_with fail
    go_ret
    exact ⟨rfl, hb6⟩
  by_cases hk1 : 0 < p
  · go_wp2_with fail
    go_ret
    exact ⟨rfl, hb6⟩
  obtain rfl : p = 0 := by omega
  clear hk0 hk1
  obtain ⟨i0, hi, hz0, hz1', hz2⟩ := info_parts Try.info45
  have hmk := make22_0
  have own0 := owns_mk v6 0 (by omega)
  have hb7 := hb6.alloc hb6.size (.cells (mk45 1) 45)
  have hE7 := hE.below ((Below.refl _ _).alloc (Nat.le_refl _) (.cells (mk45 1) 45)) (by omega)
  have hs7 : (v6.alloc (.cells (mk45 1) 45)).heap.size = v6.heap.size + 1 := by simp
  replace hs7 : Hid _ := hs7
  replace hz0 : Hid _ := hz0
  replace hz1' : Hid _ := hz1'
  replace hz2 : Hid _ := hz2
  replace hi : Hid _ := hi
  have hne : ∀ k, some v6.heap.size = some k → v6.heap.size ≤ k := fun k hk => by have := Option.some.inj hk; omega
  have hc7 := (Below.refl v6.heap.size v6).alloc (Nat.le_refl _) (.cells (mk45 1) 45)
  go_wp2_with (first
    | (at_builtin; refine wpList_append_fits_any _ rfl (.tmp 72) (.tmp 75) 22 rfl v6.heap.size 45 i0 6 Try.underlying22 hi.out hz1'.out v6.heap.size 0 1 [] rfl own0 none 0 0 [] rfl rfl (by simp) (fun ad had => by cases had) (fun u hu => by cases hu) (by omega) ?_; intro w8 own1 grow1; simp only [Nat.zero_add, List.nil_append] at own1; obtain ⟨c0, c1, c2, c3, c4, c5⟩ := six0 (six_grown hE7 grow1 (by omega)); have hc8 := hc7.grown grow1 hc7.size hne)
    | (at_builtin; refine wpList_append_fits_any _ rfl (.tmp 77) (.tmp 79) 22 rfl v6.heap.size 45 i0 6 Try.underlying22 hi.out hz1'.out v6.heap.size 0 1 [] rfl (own1.alloc _) (some ⟨w8.heap.size, 0, none⟩) 1 1 (six E) rfl rfl (by simp) (fun ad had => by obtain rfl := Option.some.inj had; exact news_new w8 E) (six_one E) (by omega) ?_; intro w9 own2 grow2; simp only [Nat.zero_add, List.nil_append] at own2; have hc9 := (hc8.alloc hc8.size _).grown grow2 (by have := hc8.size; simp; omega) hne)
    | (at_builtin; refine wpList_append_fits_any _ rfl (.tmp 81) (.tmp 84) 22 rfl v6.heap.size 45 i0 6 Try.underlying22 hi.out hz1'.out v6.heap.size 1 1 (six E) rfl own2 none 0 0 [] rfl rfl (by simp) (fun ad had => by cases had) (fun u hu => by cases hu) (by omega) ?_; intro w10 own3 grow3; simp only [Nat.add_zero, List.append_nil] at own3; have hc10 := hc9.grown grow3 hc9.size hne))
  have hcat : six E = cat 1 (putIn 0 E F) := by simp [cat, putIn]
  rw [hcat] at own3
  have hR := row_owned own3
  have hb10 := hb6.trans (hc10.mono (by omega))
  replace hE := hE.below hc10 (by omega)
  have hz10 : w.heap.size < w10.heap.size := by have := hc10.size; omega
  clear hc7 hc8 hc9 hc10 own0 own1 own2 own3 grow1 grow2 grow3 hE7 hb7 hs7 hz0 hz1' hz2 hi hmk c0 c1 c2 c3 c4 c5 hb6 hne
  refine (view11 xid name status code none 0 0 F w10 (by omega) (hrow _ _) (by simp)).mono ?_
  rintro e w3 ⟨hb3, ⟨-, rfl⟩ | ⟨hx, -⟩⟩
  rotate_left
  · exact absurd rfl hx
  go_wp2_with fail
  refine (tx10 xid name status code none 0 0 F w3 (by omega) (hrow _ _) (by simp)).mono ?_
  rintro e w4 ⟨hb4, ⟨-, rfl⟩ | ⟨hx, -⟩⟩
  rotate_left
  · exact absurd rfl hx
  have V := NVar.new w4 xid name code
  have hb5 := (hb3.trans (hb4.mono hb3.size)).alloc (Nat.le_trans hb3.size hb4.size) (.cells #[.string xid, .string name, .int .i64 code, .slice none 0 0] 29)
  replace hR := hR.below hb5 hb5.size
  replace hE := hE.below hb5 hz10
  have hz5 := Nat.lt_of_lt_of_le hz10 hb5.size
  replace hb5 := hb10.trans (hb5.mono hb10.size)
  clear hb3 hb4
  go_wp2_with fail
  refine (view11 xid name status code (some ⟨v6.heap.size, 0, none⟩) 1 1 (putIn 0 E F) _ (by omega) hR (by simp)).mono ?_
  rintro e w7 ⟨hb7, ⟨hx, -⟩ | ⟨-, g7, rfl, hg7, hg7', hl7⟩⟩
  · simp at hx
  go_wp2_with fail
  refine (tx10 xid name status code (some ⟨g7, 0, none⟩) 1 1 (putIn 0 E F) w7 (by omega) (row_of_lies hl7 hg7') (by simp)).mono ?_
  rintro e w8' ⟨hb8', ⟨hx, -⟩ | ⟨-, g8, rfl, hg8, hg8', hl8⟩⟩
  · simp at hx
  replace V := (V.below hb7).below hb8'
  have L := Var.new (xid := xid) (name := name) (code := code) hg8' hl8
  have hb9 := (hb7.trans (hb8'.mono hb7.size)).alloc (Nat.le_trans hb7.size hb8'.size) (.cells #[.string xid, .string name, .int .i64 code, .slice (some ⟨g8, 0, none⟩) 1 1] 29)
  replace V := V.below ((Below.refl _ _).alloc (Nat.le_refl _) (.cells #[.string xid, .string name, .int .i64 code, .slice (some ⟨g8, 0, none⟩) 1 1] 29))
  replace hE := hE.below hb9 hz5
  have hz9 := Nat.lt_of_lt_of_le hz5 hb9.size
  replace hb9 := hb5.trans (hb9.mono hb5.size)
  clear hb5 hb7 hb8' hl7 hl8 hg7 hg7' hg8 hg8' hR hz5 hb10 hz10
  obtain ⟨v0, v1, v2, v3⟩ := V.cells
  go_wp2_with fail
  refine (head12 xid name code _ ⟨_, _, _, rfl⟩ _).mono ?_
  rintro e w14 ⟨rfl, hb14⟩
  clear v0 v1 v2 v3
  replace V := V.below hb14
  replace L := L.below hb14
  replace hE := hE.below hb14 hz9
  have hz14 := Nat.lt_of_lt_of_le hz9 hb14.size
  replace hb14 := hb9.trans (hb14.mono hb9.size)
  clear hb9 hz9
  obtain ⟨l0, l1, l2, l3⟩ := L.cells
  go_wp2_with fail
  refine (head12 xid name code _ ⟨_, _, _, rfl⟩ _).mono ?_
  rintro e w15 ⟨rfl, hb15⟩
  clear l0 l1 l2 l3
  replace V := V.below hb15
  replace L := L.below hb15
  replace hE := hE.below hb15 hz14
  have hz15 := Nat.lt_of_lt_of_le hz14 hb15.size
  replace hb15 := hb14.trans (hb15.mono hb14.size)
  clear hb14 hz14
  obtain ⟨v0, v1, v2, v3⟩ := V.cells
  obtain ⟨l0, l1, l2, l3⟩ := L.cells
  have q27 := fun (w : World) (a : Option Addr) (n c : Nat) => Lib.run_eql_slice_nil (P := Try.prog) w 27 42 a n c 0 0 Try.underlying27
  have q22 := fun (w : World) (a : Option Addr) (n c : Nat) => Lib.run_eql_slice_nil (P := Try.prog) w 22 45 a n c 0 0 Try.underlying22
  go_wp2_with fail
  go_loop [19] (fun i => i = .int .i64 0) (fun _ => 0)
  case atStart => rfl
  case round =>
      obtain rfl := hrel
      obtain ⟨b0, b1, b2, b3, b4⟩ := L.at (i := 0) (by omega)
      rw [show putIn 0 E F 0 = E by simp [putIn]] at b0 b1 b2 b3 b4
      simp only [Nat.zero_mul, Nat.zero_add] at b0 b1 b2 b3 b4
      obtain ⟨c0, c1, c2, c3, c4, c5⟩ := six0 hE
      have s1 := L.2.1
      have s2 := L.2.2.1
      go_wp2_with fail
      go_region_held3 (fun w' => w'.cell? ⟨w8'.heap.size, 3, none⟩ = some (.slice (some ⟨g8, 0, none⟩) 1 1) ∧ w'.cell? ⟨g8, 0, none⟩ = some (.int .i64 E.id) ∧ w'.cell? ⟨g8, 1, none⟩ = some (.string E.mode) ∧ w'.cell? ⟨g8, 2, none⟩ = some (.string E.res) ∧ w'.cell? ⟨g8, 3, none⟩ = some (.string E.lock) ∧ w'.cell? ⟨g8, 4, none⟩ = some (.int .i64 E.code) ∧
          w'.cell? ⟨w.heap.size, 0, none⟩ = some (.int .i64 E.id) ∧ w'.cell? ⟨w.heap.size, 1, none⟩ = some (.string E.mode) ∧ w'.cell? ⟨w.heap.size, 2, none⟩ = some (.string E.res) ∧ w'.cell? ⟨w.heap.size, 3, none⟩ = some (.string E.lock) ∧ w'.cell? ⟨w.heap.size, 4, none⟩ = some (.string E.stat) ∧ w'.cell? ⟨w.heap.size, 5, none⟩ = some (.int .i64 E.code))
        (first | (simp [*]; done) | (refine ⟨?_, ?_, ?_, ?_, ?_, ?_, ?_, ?_, ?_, ?_, ?_, ?_⟩ <;> exact kept2 (by simp [*]) (by simpa using by assumption)))
        (first | (go_at_call 13; refine (branch13 E _).mono ?_; rintro e w' ⟨rfl, rfl⟩))
      go_wp2_with fail
      go_loop [20] (fun i => i = .int .i64 0) (fun _ => 0)
      case atStart => rfl
      case round =>
        obtain rfl := hrel
        go_wp2_with fail
        go_ret
        exact ⟨rfl, ((hb15.drew).alloc (by exact hb15.size) _).alloc (by simp; have := hb15.size; omega) _⟩
end Go.Proofs.Qxb6612837a
