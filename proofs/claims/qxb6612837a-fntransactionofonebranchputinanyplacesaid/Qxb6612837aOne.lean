import Derived.Test.Qxb6612837aOver
import Derived.Test.Qxb6612837aBytesOne
import Derived.Test.Qxb6612837aCat
import Derived.Deep.QuietTactic
import Derived.BigQuiet
import Derived.Deep.RegionHeld3
import Derived.Laws.Pointers
namespace Go.Proofs.Qxb6612837a
open Go.RowKit

theorem Try.info45 : (Try.prog.info? 45).map (fun i => (i.zero, i.size, i.bytes)) = some (some (.agg #[.int .i64 0, .string ByteArray.empty, .string ByteArray.empty, .string ByteArray.empty, .string ByteArray.empty, .int .i64 0]), 6, 80) := by kernel_rfl

theorem six_new (w : World) (E : Br) : Six (w.alloc (.cells #[.int .i64 E.id, .string E.mode, .string E.res, .string E.lock, .string E.stat, .int .i64 E.code] 45)) w.heap.size 0 E :=
  (lies_alloc w 45 (six E)).six

theorem six0 {w : World} {b : Nat} {x : Br} (h : Six w b 0 x) : w.cell? ⟨b, 0, none⟩ = some (.int .i64 x.id) ∧ w.cell? ⟨b, 1, none⟩ = some (.string x.mode) ∧ w.cell? ⟨b, 2, none⟩ = some (.string x.res) ∧
    w.cell? ⟨b, 3, none⟩ = some (.string x.lock) ∧ w.cell? ⟨b, 4, none⟩ = some (.string x.stat) ∧ w.cell? ⟨b, 5, none⟩ = some (.int .i64 x.code) := h

/-- What make lays for the list of branches. -/
def mk45 (n : Nat) : Array Value := madeCells #[.int .i64 0, .string ByteArray.empty, .string ByteArray.empty, .string ByteArray.empty, .string ByteArray.empty, .int .i64 0] (n * 6)

theorem make22 (n : Nat) (hn : n ≤ 70000) (w : World) :
    (Instr.makeSlice 22 (.int .i64 0) (.int .i64 ((n : Int) + 1))).run Try.prog w = .ok (.slice (some ⟨w.heap.size, 0, none⟩) 0 (n + 1)) (w.alloc (.cells (mk45 (n + 1)) 45)) := by
  obtain ⟨i, hi, hz, hs, hb⟩ := info_parts Try.info45
  have := run_make (P := Try.prog) w 22 45 i _ Try.underlying22 hi hz .i64 .i64 0 (n + 1) (Int.le_refl _) (by omega) (by rw [hb]; omega) (by omega)
  rw [this, hs]
  rfl

theorem owns_mk (w : World) (n : Nat) (hn : n ≤ 70000) : (w.alloc (.cells (mk45 (n + 1)) 45)).ownsRow w.heap.size 45 6 (.slice (some ⟨w.heap.size, 0, none⟩) 0 (n + 1)) 0 [] :=
  World.ownsRow_made w _ (n + 1) (Nat.le_refl _) (by unfold maxLen; omega) (by simp [mk45, size_madeCells])

theorem six_grown {w w' : World} {g b o : Nat} {x : Br} (h : Six w b o x) (hg : w.grownBy w' (some g)) (hne : b ≠ g) : Six w' b o x := by
  obtain ⟨h0, h1, h2, h3, h4, h5⟩ := h
  have ne : some b ≠ some g := by simpa using hne
  exact ⟨hg.cell h0 ne, hg.cell h1 ne, hg.cell h2 ne, hg.cell h3 ne, hg.cell h4 ne, hg.cell h5 ne⟩

theorem news_new (w : World) (E : Br) : ∀ j u, (six E)[j]? = some u → (w.alloc (.cells #[.int .i64 E.id, .string E.mode, .string E.res, .string E.lock, .string E.stat, .int .i64 E.code] 45)).cell? ((⟨w.heap.size, 0, none⟩ : Addr).add j) = some u := by
  intro j u hu
  have hj := (List.getElem?_eq_some_iff.1 hu).1
  have := lies_alloc w 45 (six E) j hj
  rw [Addr.add_lit]
  have e : (six E).getD j undef = u := by simp [List.getD, hu]
  rw [e] at this
  exact this

set_option maxRecDepth 100000 in
set_option maxHeartbeats 2000000 in
theorem one_some (xid name status : ByteArray) (code p : Int) (x : Addr) (len cap : Nat) (F : Nat → Br) (E : Br) (w : World) (hlc : len ≤ cap) (hrow : Row w w.heap.size (some x) len F) :
    Calls Try.prog 4 #[.string xid, .string name, .string status, .int .i64 code, .slice (some x) len cap, .int .i64 p, .agg #[.int .i64 E.id, .string E.mode, .string E.res, .string E.lock, .string E.stat, .int .i64 E.code]] w (LawPost w) := by
  have hb0 := (Below.refl w.heap.size w).alloc (Nat.le_refl _) (.cells #[.int .i64 E.id, .string E.mode, .string E.res, .string E.lock, .string E.stat, .int .i64 E.code] 45)
  have hE := six_new w E
  go_enter Try.func4, Try.ntmps4
  go_wp2_with fail
  refine (bytes14 xid name status code p (some x) len cap F E _ (hrow.below hb0 hb0.size)).mono ?_
  rintro e w1 ⟨b, rfl, hb1⟩
  replace hE := hE.below hb1 (by simp)
  have hz1 : w.heap.size < w1.heap.size := by have := hb1.size; simp at this; omega
  replace hb1 := hb0.trans (hb1.mono (by simp))
  clear hb0
  cases b
  · go_wp2_with fail
    go_ret
    exact ⟨rfl, hb1⟩
  go_wp2_with fail
  have hv0 := (Below.refl w1.heap.size w1).alloc (Nat.le_refl _) (.cells #[.int .i64 0] 3)
  refine (over15 w1.heap.size w1.heap.size 0 _ _ (Nat.le_refl _) (by simp) (by simp)).mono ?_
  rintro e v1 ⟨b, y1, rfl, g1, k1, z1⟩
  replace g1 := hv0.trans g1
  clear hv0
  cases b
  rotate_left
  · go_wp2_with fail
    go_ret
    exact ⟨rfl, hb1.trans (g1.mono (by omega))⟩
  obtain ⟨c0, c1, c2, c3, c4, c5⟩ := six0 (hE.below g1 hz1)
  go_wp2_with fail
  refine (over15 w1.heap.size w1.heap.size _ _ _ (Nat.le_refl _) k1 z1).mono ?_
  rintro e v2 ⟨b, y2, rfl, g2, k2, z2⟩
  replace g2 := g1.trans g2
  clear g1 k1 z1 c0 c1 c2 c3 c4 c5
  cases b
  rotate_left
  · go_wp2_with fail
    go_ret
    exact ⟨rfl, hb1.trans (g2.mono (by omega))⟩
  obtain ⟨c0, c1, c2, c3, c4, c5⟩ := six0 (hE.below g2 hz1)
  go_wp2_with fail
  refine (over15 w1.heap.size w1.heap.size _ _ _ (Nat.le_refl _) k2 z2).mono ?_
  rintro e v3 ⟨b, y3, rfl, g3, k3, z3⟩
  replace g3 := g2.trans g3
  clear g2 k2 z2 c0 c1 c2 c3 c4 c5
  cases b
  rotate_left
  · go_wp2_with fail
    go_ret
    exact ⟨rfl, hb1.trans (g3.mono (by omega))⟩
  obtain ⟨c0, c1, c2, c3, c4, c5⟩ := six0 (hE.below g3 hz1)
  go_wp2_with fail
  refine (over15 w1.heap.size w1.heap.size _ _ _ (Nat.le_refl _) k3 z3).mono ?_
  rintro e v4 ⟨b, y4, rfl, g4, k4, z4⟩
  replace g4 := g3.trans g4
  clear g3 k3 z3 c0 c1 c2 c3 c4 c5
  cases b
  rotate_left
  · go_wp2_with fail
    go_ret
    exact ⟨rfl, hb1.trans (g4.mono (by omega))⟩
  obtain ⟨c0, c1, c2, c3, c4, c5⟩ := six0 (hE.below g4 hz1)
  go_wp2_with fail
  refine (over15 w1.heap.size w1.heap.size _ _ _ (Nat.le_refl _) k4 z4).mono ?_
  rintro e v5 ⟨b, y5, rfl, g5, k5, z5⟩
  replace g5 := g4.trans g5
  clear g4 k4 z4 c0 c1 c2 c3 c4 c5
  cases b
  rotate_left
  · go_wp2_with fail
    go_ret
    exact ⟨rfl, hb1.trans (g5.mono (by omega))⟩
  go_wp2_with fail
  refine (overview9 w1.heap.size w1.heap.size _ xid name status (some x) len cap F _ (Nat.le_refl _) k5 z5 ?_).mono ?_
  · exact hrow.below (hb1.trans (g5.mono (by omega))) (by omega)
  rintro e v6 ⟨b, y, rfl, hlen, g6, -, -⟩
  replace g6 := g5.trans g6
  clear g5 k5 z5
  replace hE := hE.below g6 hz1
  have hz6 := g6.size
  have hb6 := hb1.trans (g6.mono (by omega))
  clear hb1 g6
  cases b
  rotate_left
  · go_wp2_with fail
    go_ret
    exact ⟨rfl, hb6⟩
  replace hlen := hlen rfl
  by_cases hk0 : p < 0
  · go_wp2_with fail
    go_ret
    exact ⟨rfl, hb6⟩
  obtain ⟨p, rfl⟩ := Int.eq_ofNat_of_zero_le (show 0 ≤ p by omega)
  by_cases hk1 : len < p
  · go_wp2_with fail
    go_ret
    exact ⟨rfl, hb6⟩
  have hkd : decide ((p : Int) < 0) = false := by simp
  clear hk0
  obtain ⟨A, hA, hsl⟩ := from22 x len cap p (by omega)
  replace hA : Hid _ := hA
  obtain ⟨i0, hi, hz0, hz1', hz2⟩ := info_parts Try.info45
  have hmk := make22 len (by omega)
  have own0 := owns_mk v6 len (by omega)
  have hb7 := hb6.alloc hb6.size (.cells (mk45 (len + 1)) 45)
  have hE7 := hE.below ((Below.refl _ _).alloc (Nat.le_refl _) (.cells (mk45 (len + 1)) 45)) (by omega)
  have hr7 := (hrow.below hb7 hb7.size).take (show p ≤ len by omega)
  have hs7 : (v6.alloc (.cells (mk45 (len + 1)) 45)).heap.size = v6.heap.size + 1 := by simp
  replace hs7 : Hid _ := hs7
  replace hz0 : Hid _ := hz0
  replace hz1' : Hid _ := hz1'
  replace hz2 : Hid _ := hz2
  replace hi : Hid _ := hi
  have hne : ∀ k, some v6.heap.size = some k → v6.heap.size ≤ k := fun k hk => by have := Option.some.inj hk; omega
  have hc7 := (Below.refl v6.heap.size v6).alloc (Nat.le_refl _) (.cells (mk45 (len + 1)) 45)
  have hn1 : Hid (p + 1 + (len - p) = len + 1) := by show p + 1 + (len - p) = len + 1; omega
  go_wp2_with (first
    | (at_builtin; refine wpList_append_fits_any _ rfl (.tmp 72) (.tmp 75) 22 rfl v6.heap.size 45 i0 6 Try.underlying22 hi.out hz1'.out v6.heap.size 0 (len + 1) [] rfl own0 (some x) p cap (cat p F) rfl (cat_length p F) (by simp) (row_news hr7) (cat_one p F) (by omega) ?_; intro w8 own1 grow1; simp only [Nat.zero_add, List.nil_append] at own1; obtain ⟨c0, c1, c2, c3, c4, c5⟩ := six0 (six_grown hE7 grow1 (by omega)); have hc8 := hc7.grown grow1 hc7.size hne)
    | (at_builtin; refine wpList_append_fits_any _ rfl (.tmp 77) (.tmp 79) 22 rfl v6.heap.size 45 i0 6 Try.underlying22 hi.out hz1'.out v6.heap.size p (len + 1) (cat p F) rfl (own1.alloc _) (some ⟨w8.heap.size, 0, none⟩) 1 1 (six E) rfl rfl (by simp) (fun ad had => by obtain rfl := Option.some.inj had; exact news_new w8 E) (six_one E) (by omega) ?_; intro w9 own2 grow2; have hc9 := (hc8.alloc hc8.size _).grown grow2 (by have := hc8.size; simp; omega) hne; have hb9 := hb6.trans (hc9.mono (by omega)))
    | (at_builtin; refine wpList_append_fits_any _ rfl (.tmp 81) (.tmp 84) 22 rfl v6.heap.size 45 i0 6 Try.underlying22 hi.out hz1'.out v6.heap.size (p + 1) (len + 1) (cat p F ++ six E) rfl own2 (some A) (len - p) (cap - p) (cat (len - p) (fun i => F (p + i))) rfl (cat_length _ _) (by simp) (row_news (row_from (hrow.below hb9 hb9.size) hlc (by omega) hA.out)) (cat_one _ _) (by omega) ?_; intro w10 own3 grow3; rw [hn1.out] at own3; rw [hn1.out]; have hc10 := hc9.grown grow3 hc9.size hne))
  rw [cat_put p len E F (by omega)] at own3
  have hR := row_owned own3
  have hb10 := hb6.trans (hc10.mono (by omega))
  replace hE := hE.below hc10 (by omega)
  have hz10 : w.heap.size < w10.heap.size := by have := hc10.size; omega
  clear hc7 hc8 hc9 hc10 hb9 own0 own1 own2 own3 grow1 grow2 grow3 hE7 hr7 hb7 hs7 hz0 hz1' hz2 hi hmk hsl hA c0 c1 c2 c3 c4 c5 hb6 hne
  refine (view11 xid name status code (some x) len cap F w10 (by omega) (hrow.below hb10 hb10.size) (by simp)).mono ?_
  rintro e w3 ⟨hb3, ⟨hx, -⟩ | ⟨-, g3, rfl, hg3, hg3', hl3⟩⟩
  · simp at hx
  go_wp2_with fail
  refine (tx10 xid name status code (some ⟨g3, 0, none⟩) len len F w3 (by omega) (row_of_lies hl3 hg3') (by simp)).mono ?_
  rintro e w4 ⟨hb4, ⟨hx, -⟩ | ⟨-, g4, rfl, hg4, hg4', hl4⟩⟩
  · simp at hx
  have V := Var.new (xid := xid) (name := name) (code := code) hg4' hl4
  have hb5 := (hb3.trans (hb4.mono hb3.size)).alloc (Nat.le_trans hb3.size hb4.size) (.cells #[.string xid, .string name, .int .i64 code, .slice (some ⟨g4, 0, none⟩) len len] 29)
  replace hR := hR.below hb5 hb5.size
  replace hE := hE.below hb5 hz10
  have hz5 := Nat.lt_of_lt_of_le hz10 hb5.size
  replace hb5 := hb10.trans (hb5.mono hb10.size)
  clear hb3 hb4 hl3 hl4 hg3 hg3' hg4 hg4'
  go_wp2_with fail
  refine (view11 xid name status code (some ⟨v6.heap.size, 0, none⟩) (len + 1) (len + 1) (putIn p E F) _ (by omega) hR (by simp)).mono ?_
  rintro e w7 ⟨hb7, ⟨hx, -⟩ | ⟨-, g7, rfl, hg7, hg7', hl7⟩⟩
  · simp at hx
  go_wp2_with fail
  refine (tx10 xid name status code (some ⟨g7, 0, none⟩) (len + 1) (len + 1) (putIn p E F) w7 (by omega) (row_of_lies hl7 hg7') (by simp)).mono ?_
  rintro e w8' ⟨hb8', ⟨hx, -⟩ | ⟨-, g8, rfl, hg8, hg8', hl8⟩⟩
  · simp at hx
  replace V := (V.below hb7).below hb8'
  have L := Var.new (xid := xid) (name := name) (code := code) hg8' hl8
  have hb9 := (hb7.trans (hb8'.mono hb7.size)).alloc (Nat.le_trans hb7.size hb8'.size) (.cells #[.string xid, .string name, .int .i64 code, .slice (some ⟨g8, 0, none⟩) (len + 1) (len + 1)] 29)
  replace V := V.below ((Below.refl _ _).alloc (Nat.le_refl _) (.cells #[.string xid, .string name, .int .i64 code, .slice (some ⟨g8, 0, none⟩) (len + 1) (len + 1)] 29))
  replace hE := hE.below hb9 hz5
  have hz9 := Nat.lt_of_lt_of_le hz5 hb9.size
  replace hb9 := hb5.trans (hb9.mono hb5.size)
  clear hb5 hb7 hb8' hl7 hl8 hg7 hg7' hg8 hg8' hR hz5 hb10 hz10
  obtain ⟨v0, v1, v2, v3⟩ := V.cells
  go_wp2_with fail
  refine (head12 xid name code _ ⟨_, _, _, rfl⟩ _).mono ?_
  rintro e w14 ⟨rfl, hb14⟩
  clear v0 v1 v2 v3
  replace V := V.below hb14
  replace L := L.below hb14
  replace hE := hE.below hb14 hz9
  have hz14 := Nat.lt_of_lt_of_le hz9 hb14.size
  replace hb14 := hb9.trans (hb14.mono hb9.size)
  clear hb9 hz9
  obtain ⟨l0, l1, l2, l3⟩ := L.cells
  go_wp2_with fail
  refine (head12 xid name code _ ⟨_, _, _, rfl⟩ _).mono ?_
  rintro e w15 ⟨rfl, hb15⟩
  clear l0 l1 l2 l3
  replace V := V.below hb15
  replace L := L.below hb15
  replace hE := hE.below hb15 hz14
  have hz15 := Nat.lt_of_lt_of_le hz14 hb15.size
  replace hb15 := hb14.trans (hb15.mono hb14.size)
  clear hb14 hz14
  obtain ⟨v0, v1, v2, v3⟩ := V.cells
  obtain ⟨l0, l1, l2, l3⟩ := L.cells
  have q27 := fun (w : World) (a : Option Addr) (n c : Nat) => Lib.run_eql_slice_nil (P := Try.prog) w 27 42 a n c 0 0 Try.underlying27
  have q22 := fun (w : World) (a : Option Addr) (n c : Nat) => Lib.run_eql_slice_nil (P := Try.prog) w 22 45 a n c 0 0 Try.underlying22
  go_wp2_with fail
  go_loopw [19] (fun i wr => ∃ j : Nat, j ≤ p ∧ i = .int .i64 j ∧ ∃ n, wr = w15.drewN n) (fun i _ => p - (intOf i).toNat)
  case atStart => exact ⟨0, Nat.zero_le _, rfl, 0, rfl⟩
  case round =>
    obtain ⟨j, hj, rfl, n, rfl⟩ := hrel
    by_cases hlt : j < p
    · obtain ⟨a0, a1, a2, a3, a4⟩ := V.at (i := j) (by omega)
      obtain ⟨b0, b1, b2, b3, b4⟩ := L.at (i := j) (by omega)
      rw [show putIn p E F j = F j by simp [putIn, hlt]] at b0 b1 b2 b3 b4
      have i1 : (0 : Int) ≤ (j : Int) := by omega
      have i2 : (j : Int) < (len : Int) := by omega
      have i3 : (j : Int) < ((len + 1 : Nat) : Int) := by omega
      go_wp2_with fail
      go_quiet (fail)
      go_wp2_with fail
      go_roundw
      case rel => exact ⟨j + 1, by omega, by go_num, n + nq, rfl⟩
      case measure => simp [intOf]; omega
    · have hjk : j = p := by omega
      subst hjk
      obtain ⟨b0, b1, b2, b3, b4⟩ := L.at (i := j) (by omega)
      rw [show putIn j E F j = E by simp [putIn]] at b0 b1 b2 b3 b4
      obtain ⟨c0, c1, c2, c3, c4, c5⟩ := six0 hE
      have i1 : (0 : Int) ≤ (j : Int) := by omega
      have i3 : (j : Int) < ((len + 1 : Nat) : Int) := by omega
      have i4 : (j : Int) < (len : Int) + 1 := by omega
      have s1 := L.2.1
      have s2 := L.2.2.1
      go_wp2_with fail
      go_region_held3 (fun w' => w'.cell? ⟨w8'.heap.size, 3, none⟩ = some (.slice (some ⟨g8, 0, none⟩) (len + 1) (len + 1)) ∧ w'.cell? ⟨g8, j * 5, none⟩ = some (.int .i64 E.id) ∧ w'.cell? ⟨g8, j * 5 + 1, none⟩ = some (.string E.mode) ∧ w'.cell? ⟨g8, j * 5 + 2, none⟩ = some (.string E.res) ∧ w'.cell? ⟨g8, j * 5 + 3, none⟩ = some (.string E.lock) ∧ w'.cell? ⟨g8, j * 5 + 4, none⟩ = some (.int .i64 E.code) ∧
          w'.cell? ⟨w.heap.size, 0, none⟩ = some (.int .i64 E.id) ∧ w'.cell? ⟨w.heap.size, 1, none⟩ = some (.string E.mode) ∧ w'.cell? ⟨w.heap.size, 2, none⟩ = some (.string E.res) ∧ w'.cell? ⟨w.heap.size, 3, none⟩ = some (.string E.lock) ∧ w'.cell? ⟨w.heap.size, 4, none⟩ = some (.string E.stat) ∧ w'.cell? ⟨w.heap.size, 5, none⟩ = some (.int .i64 E.code))
        (first | (simp [*]; done) | (refine ⟨?_, ?_, ?_, ?_, ?_, ?_, ?_, ?_, ?_, ?_, ?_, ?_⟩ <;> exact kept2 (by simp [*]) (by simpa using by assumption)))
        (first | (go_at_call 13; refine (branch13 E _).mono ?_; rintro e w' ⟨rfl, rfl⟩))
      have hbW : ∀ n, Below w15.heap.size w15 (((w15.drewN n).alloc (.cells #[.int .i64 E.id, .string E.mode, .string E.res, .string E.lock, .string E.stat, .int .i64 E.code] 45)).alloc (.cells #[.int .i64 E.id, .string E.mode, .string E.res, .string E.lock, .int .i64 E.code] 42)) := fun n => ((below_drewN w15 _ n).alloc (Nat.le_refl _) _).alloc (by simp) _
      go_wp2_with fail
      clear v0 v1 v2 v3 l0 l1 l2 l3 b0 b1 b2 b3 b4 c0 c1 c2 c3 c4 c5 s1 s2
      replace V := V.below (hbW (n + 1))
      replace L := L.below (hbW (n + 1))
      replace hbW := hb15.trans ((hbW (n + 1)).mono (by omega))
      generalize ((w15.drewN (n + 1)).alloc (.cells #[.int .i64 E.id, .string E.mode, .string E.res, .string E.lock, .string E.stat, .int .i64 E.code] 45)).alloc (.cells #[.int .i64 E.id, .string E.mode, .string E.res, .string E.lock, .int .i64 E.code] 42) = w17 at *
      obtain ⟨v0, v1, v2, v3⟩ := V.cells
      obtain ⟨l0, l1, l2, l3⟩ := L.cells
      go_loopw [20] (fun i wr => ∃ d : Nat, j + d ≤ len ∧ i = .int .i64 ((j + d : Nat) : Int) ∧ ∃ n, wr = w17.drewN n) (fun i _ => len - (intOf i).toNat)
      case atStart => exact ⟨0, by omega, rfl, 0, rfl⟩
      case round =>
        obtain ⟨d, hd, rfl, n2, rfl⟩ := hrel
        by_cases hlt2 : j + d < len
        · obtain ⟨a0, a1, a2, a3, a4⟩ := V.at (i := j + d) hlt2
          obtain ⟨b0, b1, b2, b3, b4⟩ := L.at (i := j + d + 1) (by omega)
          rw [show putIn j E F (j + d + 1) = F (j + d) by rw [putIn, if_neg (by omega), if_neg (by omega)]; rfl] at b0 b1 b2 b3 b4
          have i1 : (0 : Int) ≤ ((j + d : Nat) : Int) := by omega
          have i2 : ((j + d : Nat) : Int) < (len : Int) := by omega
          have i3 : ((j + d : Nat) : Int) + 1 < (len : Int) + 1 := by omega
          have i4 : (j : Int) + (d : Int) < (len : Int) := by omega
          have i5 : (j : Int) + (d : Int) + 1 < (len : Int) + 1 := by omega
          go_wp2_with fail
          go_quiet (fail)
          go_wp2_with fail
          go_roundw
          case rel => exact ⟨d + 1, by omega, by go_num, n2 + nq, rfl⟩
          case measure => simp [intOf]; omega
        · go_wp2_with fail
          go_ret
          exact ⟨rfl, hbW.trans (below_drewN _ _ _)⟩
end Go.Proofs.Qxb6612837a
