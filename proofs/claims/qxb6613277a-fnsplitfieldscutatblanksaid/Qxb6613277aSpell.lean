import Derived.Test.Qxb6613277aSplit
import Derived.Test.Qxb6613277aIndex
import Derived.OwnWalk
import Derived.Deep.QuietTactic
import Derived.BigQuiet
namespace Go.Proofs.Qxb6613277a
open Go.RowKit
set_option linter.unusedVariables false

theorem info5 : (Try.prog.info? 5).map (fun i => (i.zero, i.size, i.bytes)) = some (some (.int .u8 0), 1, 1) := by kernel_rfl

def encB (c : UInt8) : Value := .int .u8 c.toNat

/-- The normalised text, so far. -/
def Nrm (s : ByteArray) (w wr : World) (k : Nat) : Prop :=
  wr.ownsRow w.heap.size 5 1 (.slice (some ⟨w.heap.size, 0, none⟩) (nst s k).1.length s.size) (nst s k).1.length ((nst s k).1.map encB) ∧ Below w.heap.size w wr

/-- The end. -/
def SpellPost (w : World) (e : Ending) (w' : World) : Prop := e = .returned (.bool true) ∧ Below w.heap.size w w'

theorem blank5t (c : UInt8) (w : World) (h : blank c = true) : Calls Try.prog 5 #[.int .u8 c.toNat] w fun e w' => e = .returned (.bool true) ∧ w' = w := by
  rw [← h]; exact blank5 c w
theorem blank5f (c : UInt8) (w : World) (h : blank c = false) : Calls Try.prog 5 #[.int .u8 c.toNat] w fun e w' => e = .returned (.bool false) ∧ w' = w := by
  rw [← h]; exact blank5 c w

theorem Nrm.blank {s : ByteArray} {w wr : World} {k : Nat} (h : Nrm s w wr k) (hlt : k < s.size) (hb : blank s[k] = true) : Nrm s w wr (k + 1) := by
  unfold Nrm; rw [nst_blank s k hlt hb]; exact h

theorem nrm_len {s : ByteArray} (fs : List (List UInt8)) (hfs : fs = fieldsL s.data.toList) : (nst s s.size).1.length = (joinB fs).length ∧ (joinB fs).length ≤ s.size := by
  have h := nst_le s s.size (Nat.le_refl _)
  rw [nst_end, ← hfs] at h
  rw [nst_end, ← hfs]
  exact ⟨rfl, by omega⟩

theorem nrm_cell {s : ByteArray} {w wr : World} {fs : List (List UInt8)} (h : Nrm s w wr s.size) (hfs : fs = fieldsL s.data.toList) (t : Nat) (c : UInt8) (hc : (joinB fs)[t]? = some c) :
    wr.cell? ⟨w.heap.size, t, none⟩ = some (.int .u8 c.toNat) ∧ t < (joinB fs).length := by
  have hl := (List.getElem?_eq_some_iff.1 hc).1
  refine ⟨?_, hl⟩
  have := h.1.cellAt t (by rw [Nat.mul_one, (nrm_len fs hfs).1]; exact hl)
  rw [this, nst_end, ← hfs, List.getElem?_map, hc]
  rfl

theorem gap_cell {s : ByteArray} {w wr : World} {fs : List (List UInt8)} (h : Nrm s w wr s.size) (hfs : fs = fieldsL s.data.toList) (k : Nat) (h0 : 0 < k) (hk : k < fs.length) :
    wr.cell? ⟨w.heap.size, endOf fs k, none⟩ = some (.int .u8 32) ∧ endOf fs k < (joinB fs).length := nrm_cell h hfs _ _ (at_gap fs k h0 hk)

theorem field_cell {s : ByteArray} {w wr : World} {fs : List (List UInt8)} (h : Nrm s w wr s.size) (hfs : fs = fieldsL s.data.toList) (k : Nat) (hk : k < fs.length) (f : ByteArray) (hf : f = ⟨fs[k].toArray⟩) (m : Nat) (hm : m < f.size) :
    wr.cell? ⟨w.heap.size, startOf fs k + m, none⟩ = some (.int .u8 (f[m].toNat)) ∧ startOf fs k + m < (joinB fs).length ∧ blank f[m] = false := by
  subst hf
  have hm' : m < fs[k].length := hm
  obtain ⟨h1, h2⟩ := nrm_cell h hfs _ _ (at_field fs k m hk hm')
  refine ⟨h1, h2, ?_⟩
  have := fields_good s.data.toList fs[k] (by rw [← hfs]; exact List.getElem_mem _)
  exact this.2 _ (List.getElem_mem hm')

theorem field_size {s : ByteArray} {fs : List (List UInt8)} (hfs : fs = fieldsL s.data.toList) (k : Nat) (hk : k < fs.length) (f : ByteArray) (hf : f = ⟨fs[k].toArray⟩) :
    0 < f.size ∧ endOf fs (k + 1) = startOf fs k + f.size := by
  subst hf
  have := (fields_good s.data.toList fs[k] (by rw [← hfs]; exact List.getElem_mem _)).1
  refine ⟨List.length_pos_iff.2 this, endOf_succ fs k hk⟩

theorem le_end {s : ByteArray} {fs : List (List UInt8)} (hfs : fs = fieldsL s.data.toList) (k : Nat) (hk : k ≤ fs.length) : k ≤ endOf fs k := by
  induction k with
  | zero => exact Nat.zero_le _
  | succ k ih =>
    have ih := ih (by omega)
    obtain ⟨h1, h2⟩ := field_size hfs k (by omega) _ rfl
    rw [h2]
    have : endOf fs k ≤ startOf fs k := by
      unfold startOf
      by_cases h0 : k = 0
      · subst h0; rw [endOf_zero]; simp
      · rw [if_neg h0]; omega
    omega

theorem below_drewN (w : World) (B n : Nat) : Below B w (w.drewN n) := ⟨rfl, rfl, rfl, Nat.le_refl _, fun _ _ => rfl⟩

set_option maxRecDepth 100000 in
set_option maxHeartbeats 4000000 in
theorem spell7 (A n : Nat) (s : ByteArray) (fs : List (List UInt8)) (w : World) (hs : s.size ≤ 1048576) (hfs : fs = fieldsL s.data.toList) (hn : n = fs.length) (hA : A < w.heap.size)
    (hcells : ∀ k (h : k < fs.length), w.cell? ⟨A, k, none⟩ = some (.string ⟨fs[k].toArray⟩)) :
    Calls Try.prog 7 #[.slice (some ⟨A, 0, none⟩) n n, .string s] w (SpellPost w) := by
  obtain ⟨i0, hi, hz0, hz1, hz2⟩ := info_parts info5
  have hM : Hid _ := nrm_len fs hfs
  have hnM : Hid _ := le_end hfs fs.length (Nat.le_refl _)
  have hcells' : Hid _ := hcells
  have hfs' : Hid _ := hfs
  have hn' : Hid _ := hn
  clear hcells hfs hn
  go_enter Try.func7, Try.ntmps7
  go_wp2_with (at_make; refine wpList_make_own _ rfl _ _ 27 rfl w.heap.size 5 i0 (.int .u8 0) 1 Try.underlying27 hi hz0 hz1 _ _ _ s.size rfl rfl rfl ?b2 ?b3 (Nat.le_refl _) ?_)
  case b2 => rw [hz2]; omega
  case b3 => unfold maxLen; omega
  intro w0 hown0 hgrow0
  have hN0 : Nrm s w w0 0 := ⟨hown0, (Below.refl _ _).grown hgrow0 (Nat.le_refl _) (fun k h => by cases h)⟩
  clear hown0 hgrow0
  go_wp2_with fail
  go_loopw [5, 6, 7] (fun v g i wr => ∃ k : Nat, k ≤ s.size ∧ v = .slice (some ⟨w.heap.size, 0, none⟩) (nst s k).1.length s.size ∧ g = .bool (nst s k).2 ∧ i = .int .i64 k ∧ Nrm s w wr k) (fun _ _ i _ => s.size - (intOf i).toNat)
  case atStart => exact ⟨0, Nat.zero_le _, rfl, rfl, rfl, hN0⟩
  case round =>
    clear hN0
    obtain ⟨k, hk, rfl, rfl, rfl, hN⟩ := hrel
    by_cases hlt : k < s.size
    · have i1 : (k : Int) < (s.size : Int) := by omega
      have hle : Hid _ := nst_le s k hk
      cases hb : blank s[k]
      · have hst : Hid _ := nst_word s k hlt hb
        have hbel : Hid _ := hN.2
        have hown := hN.1
        cases hg : (nst s k).2
        · rw [hg] at hst hle
          have hroom : (nst s k).1.length + 1 ≤ s.size := by have := hle.out; simp at this; omega
          go_wp2_with fail
          refine (blank5f _ _ hb).mono ?_
          rintro e w1 ⟨rfl, rfl⟩
          go_wp2_with (at_builtin; refine wpList_append_fits _ rfl (.tmp 32) (.tmp 36) 27 rfl w.heap.size 5 i0 1 Try.underlying27 hi hz1 w.heap.size (nst s k).1.length s.size _ rfl (hown.alloc _) ⟨w1.heap.size, 0, none⟩ 1 1 [.int .u8 (s[k].toNat)] rfl rfl (by intro t u ht; match t, ht with | 0, ht => simp at ht; subst ht; simp [Addr.add]) (by intro u hu; simp at hu; subst hu; rfl) (by omega) ?_; intro w2 hown2 hgrow2)
          have hR : Nrm s w w2 (k + 1) := by
            unfold Nrm; rw [hst.out]
            refine ⟨by simpa [encB] using hown2, (hbel.out.alloc hbel.out.size _).grown hgrow2 (by simp; have := hbel.out.size; omega) (fun k hk => by cases hk; exact Nat.le_refl _)⟩
          go_roundw
          case rel => exact ⟨k + 1, by omega, by rw [hst.out]; simp, by rw [hst.out], by go_num, hR⟩
          case measure => simp [intOf]; omega
        · rw [hg] at hst hle
          have hroom : (nst s k).1.length + 1 + 1 ≤ s.size := by have := hle.out; simp at this; omega
          go_wp2_with fail
          refine (blank5f _ _ hb).mono ?_
          rintro e w1 ⟨rfl, rfl⟩
          go_wp2_with (first
            | (at_builtin; refine wpList_append_fits _ rfl (.tmp 29) (.tmp 30) 27 rfl w.heap.size 5 i0 1 Try.underlying27 hi hz1 w.heap.size (nst s k).1.length s.size _ rfl (hown.alloc _) ⟨w1.heap.size, 0, none⟩ 1 1 [.int .u8 32] rfl rfl (by intro t u ht; match t, ht with | 0, ht => simp at ht; subst ht; simp [Addr.add]) (by intro u hu; simp at hu; subst hu; rfl) (by omega) ?_; intro w2 hown2 hgrow2; have hbel2 : Hid _ := (hbel.out.alloc hbel.out.size _).grown hgrow2 (by simp; have := hbel.out.size; omega) (fun k hk => by cases hk; exact Nat.le_refl _); clear hgrow2)
            | (at_builtin; refine wpList_append_fits _ rfl (.tmp 32) (.tmp 36) 27 rfl w.heap.size 5 i0 1 Try.underlying27 hi hz1 w.heap.size ((nst s k).1.length + 1) s.size _ rfl (hown2.alloc _) ⟨w2.heap.size, 0, none⟩ 1 1 [.int .u8 (s[k].toNat)] rfl rfl (by intro t u ht; match t, ht with | 0, ht => simp at ht; subst ht; simp [Addr.add]) (by intro u hu; simp at hu; subst hu; rfl) (by omega) ?_; intro w3 hown3 hgrow3))
          have hR : Nrm s w w3 (k + 1) := by
            unfold Nrm; rw [hst.out]
            refine ⟨by simpa [encB] using hown3, (hbel2.out.alloc hbel2.out.size _).grown hgrow3 (by simp; have := hbel2.out.size; omega) (fun k hk => by cases hk; exact Nat.le_refl _)⟩
          go_roundw
          case rel => exact ⟨k + 1, by omega, by rw [hst.out]; simp, by rw [hst.out], by go_num, hR⟩
          case measure => simp [intOf]; omega
      · have hst : Hid _ := nst_blank s k hlt hb
        have hR := hN.blank hlt hb
        by_cases hL : 0 < (nst s k).1.length
        · have he : Hid ((nst s k).1.isEmpty = false) := by
            unfold Hid
            cases h : (nst s k).1 with
            | nil => rw [h] at hL; simp at hL
            | cons _ _ => rfl
          go_wp2_with fail
          refine (blank5t _ _ hb).mono ?_
          rintro e w1 ⟨rfl, rfl⟩
          go_wp2_with fail
          go_roundw
          case rel => exact ⟨k + 1, by omega, by rw [hst.out], by rw [hst.out, he.out]; simp, by go_num, hR⟩
          case measure => simp [intOf]; omega
        · have he : Hid ((nst s k).1.isEmpty = true) := by
            unfold Hid
            cases h : (nst s k).1 with
            | nil => rfl
            | cons _ _ => rw [h] at hL; simp at hL
          go_wp2_with fail
          refine (blank5t _ _ hb).mono ?_
          rintro e w1 ⟨rfl, rfl⟩
          go_wp2_with fail
          go_roundw
          case rel => exact ⟨k + 1, by omega, by rw [hst.out], by rw [hst.out, he.out]; simp, by go_num, hR⟩
          case measure => simp [intOf]; omega
    · obtain rfl : k = s.size := by omega
      have hbel : Hid _ := hN.2
      have hN' : Hid _ := hN
      have hcw : Hid (∀ k (h : k < fs.length), wr.cell? ⟨A, k, none⟩ = some (.string ⟨fs[k].toArray⟩)) := fun k h => (hN.2.cell (by exact hA)).trans (hcells'.out k h)
      obtain ⟨M, hMe⟩ : ∃ M, M = (nst s s.size).1.length := ⟨_, rfl⟩
      rw [← hMe]
      have hMs : M ≤ 1048576 := by have := hM.out; omega
      have hMj : Hid (M = (joinB fs).length) := by unfold Hid; rw [hMe]; exact hM.out.1
      have hnle : n ≤ 1048576 := by have := hnM.out; rw [endOf_all] at this; rw [hn'.out]; have := hM.out; omega
      clear hN hMe hlt hk
      go_wp2_with fail
      go_loopw [8, 9] (fun j i wr' => ∃ k q : Nat, k ≤ n ∧ j = .int .i64 (endOf fs k) ∧ i = .int .i64 k ∧ wr' = wr.drewN q) (fun _ i _ => n - (intOf i).toNat)
      case atStart => exact ⟨0, 0, Nat.zero_le _, by rw [endOf_zero]; rfl, rfl, rfl⟩
      case round =>
        obtain ⟨k, q, hk, rfl, rfl, rfl⟩ := hrel
        by_cases hlt : k < n
        · have hkf : k < fs.length := by rw [← hn'.out]; exact hlt
          obtain ⟨f, hf⟩ : ∃ f : ByteArray, f = ⟨fs[k].toArray⟩ := ⟨_, rfl⟩
          have hcell : wr.cell? ⟨A, k, none⟩ = some (.string f) := by rw [hf]; exact hcw.out k hkf
          obtain ⟨fpos, hend'⟩ := field_size hfs'.out k hkf f hf
          have hfc' : Hid (∀ m (hm : m < f.size), wr.cell? ⟨w.heap.size, startOf fs k + m, none⟩ = some (.int .u8 (f[m].toNat)) ∧ startOf fs k + m < (joinB fs).length ∧ blank f[m] = false) := field_cell hN'.out hfs'.out k hkf f hf
          obtain ⟨st, hst⟩ : ∃ st, st = startOf fs k := ⟨_, rfl⟩
          rw [← hst, ← hMj.out] at hfc'
          rw [← hst] at hend'
          have hend : Hid _ := hend'
          have hlast := (hfc'.out (f.size - 1) (by omega)).2.1
          have hste : Hid (st = if k = 0 then 0 else endOf fs k + 1) := hst
          have hgc' : Hid (0 < k → wr.cell? ⟨w.heap.size, endOf fs k, none⟩ = some (.int .u8 32) ∧ endOf fs k < M) := by
            unfold Hid; rw [hMj.out]; exact fun h0 => gap_cell hN'.out hfs'.out k h0 hkf
          have hz : Hid (k = 0 → endOf fs k = 0) := fun h => by rw [h]; exact endOf_zero fs
          have hnx : Hid (∀ q, ∃ k' q', k' ≤ n ∧ Value.int .i64 ((st + f.size : Nat) : Int) = .int .i64 (endOf fs k') ∧ Value.int .i64 ((k : Int) + 1) = .int .i64 k' ∧ wr.drewN q = wr.drewN q') := fun q => ⟨k + 1, q, by omega, by rw [hend.out], by go_num, rfl⟩
          clear hend' hst hf hkf
          obtain ⟨e, he⟩ : ∃ e, e = endOf fs k := ⟨_, rfl⟩
          rw [← he] at hste hgc' hz ⊢
          clear he
          by_cases h0 : k = 0
          · obtain rfl : st = e := by rw [hste.out, if_pos h0, hz.out h0]
            have hp : k ≤ 0 := by omega
            clear h0
            go_wp2_with fail
            have hfz : ((f.size : Int) == 0) = false := beq_eq_false_iff_ne.2 (by omega)
            have hk0 : decide (0 < k) = false := decide_eq_false (by omega)
            rw [hfz, hk0]
            go_loopw [8, 11] (fun j i wr' => ∃ m q : Nat, m ≤ f.size ∧ j = .int .i64 ((st + m : Nat) : Int) ∧ i = .int .i64 m ∧ wr' = wr.drewN q) (fun _ i _ => f.size - (intOf i).toNat)
            case atStart => exact ⟨0, q, Nat.zero_le _, by go_num, rfl, rfl⟩
            case round =>
              obtain ⟨m, q', hm, rfl, rfl, rfl⟩ := hrel
              by_cases hlt2 : m < f.size
              · obtain ⟨hc1, hc2, hc3⟩ := hfc'.out m hlt2
                have i1 : (m : Int) < (f.size : Int) := by omega
                have i2 : (0 : Int) ≤ ((st + m : Nat) : Int) := by omega
                have i3 : ((st + m : Nat) : Int) < (M : Int) := by omega
                have i4 : decide ((M : Int) ≤ ((st + m : Nat) : Int)) = false := decide_eq_false (by omega)
                obtain ⟨jj, hjj⟩ : ∃ jj : Nat, jj = st + m := ⟨_, rfl⟩
                rw [← hjj] at hc1 hc2 i2 i3 i4 ⊢
                have hjj' : Hid _ := hjj
                clear hjj
                go_wp2_with fail
                go_quiet (first | (go_at_call 5; exact (blank5f _ _ hc3).mono (fun e w'' h => ⟨h.1, _, h.2⟩)))
                go_wp2_with fail
                go_roundw
                case rel => exact ⟨m + 1, _, by omega, by rw [hjj'.out]; go_num, by go_num, rfl⟩
                case measure => simp [intOf]; omega
              · obtain rfl : m = f.size := by omega
                go_wp2_with fail
                go_roundw
                case rel => exact hnx.out _
                case measure => simp [intOf]; omega
          · obtain ⟨hg1, hg2⟩ := hgc'.out (by omega)
            obtain rfl : st = e + 1 := by have := hste.out; rw [if_neg h0] at this; exact this
            have hp : 0 < k := by omega
            have hg3 : ¬ ((M : Int) ≤ (e : Int)) := by omega
            go_wp2_with fail
            go_loopw [8, 11] (fun j i wr' => ∃ m q : Nat, m ≤ f.size ∧ j = .int .i64 ((e + 1 + m : Nat) : Int) ∧ i = .int .i64 m ∧ wr' = wr.drewN q) (fun _ i _ => f.size - (intOf i).toNat)
            case atStart => exact ⟨0, q, Nat.zero_le _, by go_num, rfl, rfl⟩
            case round =>
              obtain ⟨m, q', hm, rfl, rfl, rfl⟩ := hrel
              by_cases hlt2 : m < f.size
              · obtain ⟨hc1, hc2, hc3⟩ := hfc'.out m hlt2
                have i1 : (m : Int) < (f.size : Int) := by omega
                have i2 : (0 : Int) ≤ ((e + 1 + m : Nat) : Int) := by omega
                have i3 : ((e + 1 + m : Nat) : Int) < (M : Int) := by omega
                have i4 : decide ((M : Int) ≤ ((e + 1 + m : Nat) : Int)) = false := decide_eq_false (by omega)
                obtain ⟨jj, hjj⟩ : ∃ jj : Nat, jj = e + 1 + m := ⟨_, rfl⟩
                rw [← hjj] at hc1 hc2 i2 i3 i4 ⊢
                have hjj' : Hid _ := hjj
                clear hjj
                go_wp2_with fail
                go_quiet (first | (go_at_call 5; exact (blank5f _ _ hc3).mono (fun e w'' h => ⟨h.1, _, h.2⟩)))
                go_wp2_with fail
                go_roundw
                case rel => exact ⟨m + 1, _, by omega, by rw [hjj'.out]; go_num, by go_num, rfl⟩
                case measure => simp [intOf]; omega
              · obtain rfl : m = f.size := by omega
                go_wp2_with fail
                go_roundw
                case rel => exact hnx.out _
                case measure => simp [intOf]; omega
        · obtain rfl : k = n := by omega
          have hen : endOf fs k = M := by rw [hMj.out, hn'.out, endOf_all]
          rw [hen]
          go_wp2_with fail
          go_ret
          exact ⟨rfl, hbel.out.trans (below_drewN _ _ _)⟩
end Go.Proofs.Qxb6613277a
