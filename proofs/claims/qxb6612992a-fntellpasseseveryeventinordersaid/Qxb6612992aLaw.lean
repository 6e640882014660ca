import Derived.Test.Qxb6612992aCat
import Derived.Deep.RegionHeld3
import Derived.Laws.Pointers
namespace Go.Proofs.Qxb6612992a
open Go.RowKit

/-- The law's end. -/
def LawPost (w : World) (e : Ending) (w' : World) : Prop := e = .returned (.bool true) ∧ Below w.heap.size w w'

set_option maxRecDepth 100000 in
set_option maxHeartbeats 2000000 in
theorem law3 (a : Option Addr) (len cap : Nat) (F : Nat → Evt) (w : World) (hrow : Row w w.heap.size a len F) :
    Calls Try.prog 3 #[.slice a len cap] w (LawPost w) := by
  go_enter Try.func3, Try.ntmps3
  go_wp2_with fail
  refine (bytes4 w.heap.size a len cap F w hrow).mono ?_
  rintro e w1 ⟨b, rfl, rfl⟩
  cases b
  · go_wp2_with fail
    go_ret
    exact ⟨rfl, Below.refl _ _⟩
  by_cases hlen : 65536 < len
  · go_wp2_with fail
    go_ret
    exact ⟨rfl, Below.refl _ _⟩
  have hl : len ≤ 65536 := by omega
  clear hlen
  go_wp2_with fail
  go_loopw [3, 4] (fun t i wr => ∃ (k n : Nat) (z : Int), k ≤ len ∧ i = .int .i64 k ∧ t = .int .i64 z ∧ wr = w1.drewN n) (fun _ i _ => len - (intOf i).toNat)
  case atStart => exact ⟨0, 0, 0, Nat.zero_le _, rfl, rfl, rfl⟩
  case round =>
    obtain ⟨k, n, z, hk, rfl, rfl, rfl⟩ := hrel
    by_cases hlt : k < len
    · obtain ⟨b, off, rfl, hbB, hcells⟩ := hrow (by omega)
      obtain ⟨c0, c1, c2, c3, c4, c5, c6, c7⟩ := hcells k hlt
      clear hcells
      have i1 : (0 : Int) ≤ (k : Int) := by omega
      have i2 : (k : Int) < (len : Int) := by omega
      by_cases t1 : 1048576 < (F k).kind.size
      · go_wp2_with fail
        go_ret
        exact ⟨rfl, below_drewN _ _ _⟩
      by_cases t2 : 1048576 < (F k).name.size
      · go_wp2_with fail
        go_ret
        exact ⟨rfl, below_drewN _ _ _⟩
      by_cases t3 : 1048576 < (F k).src.size
      · go_wp2_with fail
        go_ret
        exact ⟨rfl, below_drewN _ _ _⟩
      go_wp2_with fail
      go_quiet (fail)
      go_wp2_with fail
      all_goals first
        | (go_ret; exact ⟨rfl, below_drewN _ _ _⟩)
        | (go_roundw; (case rel => exact ⟨k + 1, _, _, by omega, by go_num, rfl, rfl⟩); (case measure => simp [intOf]; omega))
    · have hkl : k = len := by omega
      subst hkl
      go_wp2_with fail
      refine (recording5 ⟨w1.heap.size, 0, none⟩ _).mono ?_
      rintro e w5 ⟨rfl, hw5⟩
      have hT : Told w1.heap.size (w1.heap.size + 1 + 1 + 1 + 1 + 1) (w1.heap.size + 1) w1.heap.size (w1.heap.size + 1 + 1 + 1 + 1 + 1 + 1) 0 F w1 w5 := by
        rw [hw5]
        have := told_start F w1 n
        simpa using this
      clear hw5
      go_wp2_with fail
      go_loopw [7] (fun i wr => ∃ j : Nat, j ≤ k ∧ i = .int .i64 j ∧ Told w1.heap.size (w1.heap.size + 1 + 1 + 1 + 1 + 1) (w1.heap.size + 1) w1.heap.size (w1.heap.size + 1 + 1 + 1 + 1 + 1 + 1) j F w1 wr) (fun i _ => k - (intOf i).toNat)
      case atStart => exact ⟨0, Nat.zero_le _, rfl, hT⟩
      case round =>
        clear hT
        obtain ⟨j, hj, rfl, hTj⟩ := hrel
        by_cases hlt2 : j < k
        · obtain ⟨b, off, rfl, hbB, hcells⟩ := hrow (by omega)
          obtain ⟨c0, c1, c2, c3, c4, c5, c6, c7⟩ := (hcells j hlt2).below hTj.1 hbB
          clear hcells
          have i1 : (0 : Int) ≤ (j : Int) := by omega
          have i2 : (j : Int) < (k : Int) := by omega
          go_wp2_with fail
          refine (toEvent7 (F j) _).mono ?_
          rintro e w6 ⟨rfl, hw6⟩
          have hb6 : Below wr.heap.size wr w6 := by rw [hw6]; exact ((Below.refl _ _).alloc (Nat.le_refl _) _).alloc (by simp) _
          clear hw6 c0 c1 c2 c3 c4 c5 c6 c7
          go_wp2_with fail
          refine (tell6 (w1.heap.size + 1 + 1 + 1 + 1 + 1) (w1.heap.size + 1) w1.heap.size (w1.heap.size + 1 + 1 + 1 + 1 + 1 + 1) j (cat j F) (F j) w6 ?_ (told_rec hTj hb6 (by omega) (by omega)) (by omega) (by omega) (by omega) ?_ (by omega)).mono ?_
          · rw [hb6.cell (by have := hTj.2.1; show w1.heap.size + 1 + 1 + 1 + 1 + 1 < _; omega)]
            exact hTj.2.2.1
          · have := hTj.2.1; have := hb6.size; omega
          intro e w7 hp
          have hT7 := told_step hTj hb6 hp (Nat.le_refl _) (by omega) (by omega) (by omega)
          obtain ⟨rfl, -, -⟩ := hp
          go_wp2_with fail
          go_roundw
          case rel => exact ⟨j + 1, by omega, by go_num, hT7⟩
          case measure => simp [intOf]; omega
        · have hjk : j = k := by omega
          subst hjk
          obtain ⟨ao, cp, hD⟩ := done_of_told hTj (by omega)
          clear hTj
          have e0 := hD.2.2.1
          go_wp2_with fail
          go_loopw [8] (fun i wr => ∃ d : Nat, d ≤ j ∧ i = .int .i64 d ∧ Done w1.heap.size w1.heap.size j cp ao F w1 wr) (fun i _ => j - (intOf i).toNat)
          case atStart => exact ⟨0, Nat.zero_le _, rfl, hD⟩
          case round =>
            clear e0 hD
            obtain ⟨d, hd, rfl, hDd⟩ := hrel
            by_cases hlt3 : d < j
            · obtain ⟨b, off, rfl, hbB, hcells⟩ := hrow (by omega)
              obtain ⟨c0, c1, c2, c3, c4, c5, c6, c7⟩ := (hcells d hlt3).below hDd.1 hbB
              obtain ⟨g, rfl, hg, he⟩ := hDd.2.2.2 (by omega)
              obtain ⟨d0, d1, d2, d3, d4, d5, d6, d7⟩ := he d hlt3
              clear hcells he
              have e0 := hDd.2.2.1
              have s1 := hDd.2.1
              have s2 := hDd.1.size
              have s3 : b < wr.heap.size := by omega
              have i1 : (0 : Int) ≤ (d : Int) := by omega
              have i2 : (d : Int) < (j : Int) := by omega
              go_wp2_with fail
              go_region_held3 (fun w' => w'.cell? ⟨w1.heap.size, 0, none⟩ = some (.slice (some ⟨g, 0, none⟩) j cp) ∧ w'.cell? ⟨g, d * 8, none⟩ = some (.string (F d).kind) ∧ w'.cell? ⟨g, d * 8 + 1, none⟩ = some (.int .u32 (F d).app) ∧ w'.cell? ⟨g, d * 8 + 2, none⟩ = some (.string (F d).name) ∧ w'.cell? ⟨g, d * 8 + 3, none⟩ = some (.int .u64 (F d).seq) ∧ w'.cell? ⟨g, d * 8 + 4, none⟩ = some (.int .u32 (F d).typ) ∧ w'.cell? ⟨g, d * 8 + 5, none⟩ = some (.int .u32 (F d).red) ∧ w'.cell? ⟨g, d * 8 + 6, none⟩ = some (.int .i64 (F d).val) ∧ w'.cell? ⟨g, d * 8 + 7, none⟩ = some (.string (F d).src) ∧ w'.cell? ⟨b, off + d * 8, none⟩ = some (.string (F d).kind) ∧ w'.cell? ⟨b, off + d * 8 + 1, none⟩ = some (.int .u32 (F d).app) ∧ w'.cell? ⟨b, off + d * 8 + 2, none⟩ = some (.string (F d).name) ∧ w'.cell? ⟨b, off + d * 8 + 3, none⟩ = some (.int .u64 (F d).seq) ∧ w'.cell? ⟨b, off + d * 8 + 4, none⟩ = some (.int .u32 (F d).typ) ∧ w'.cell? ⟨b, off + d * 8 + 5, none⟩ = some (.int .u32 (F d).red) ∧ w'.cell? ⟨b, off + d * 8 + 6, none⟩ = some (.int .i64 (F d).val) ∧ w'.cell? ⟨b, off + d * 8 + 7, none⟩ = some (.string (F d).src))
                (first | (simp [*]; done) | (refine ⟨?_, ?_, ?_, ?_, ?_, ?_, ?_, ?_, ?_, ?_, ?_, ?_, ?_, ?_, ?_, ?_, ?_⟩ <;> exact kept2 (by simp [*]) (by simpa using by assumption)))
                (first | (go_at_call 7; refine (toEvent7 (F d) _).mono ?_; rintro e w' ⟨rfl, rfl⟩))
              go_wp2_with fail
              go_roundw
              case rel => exact ⟨d + 1, by omega, by go_num, hDd.step (((Below.refl _ _).drew.alloc (Nat.le_refl _) _).alloc (by simp) _) s2⟩
              case measure => simp [intOf]; omega
            · go_wp2_with fail
              go_ret
              exact ⟨rfl, hDd.1⟩
end Go.Proofs.Qxb6612992a
