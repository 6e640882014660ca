import Derived.Test.Qxb6612992aRows
import Derived.WalkKit
import Derived.ProofKit
import Derived.WalkSpells
import Derived.WalkLawsBesides
import Derived.Deep.OwnRows
import Derived.Deep.Draws
import Derived.Deep.QuietTactic
import Derived.BigQuiet
import Derived.Deep.AppendLies
namespace Go.Proofs.Qxb6612992a
open Go.RowKit

/-- One event. -/
structure Evt where
  kind : ByteArray
  app : Int
  name : ByteArray
  seq : Int
  typ : Int
  red : Int
  val : Int
  src : ByteArray

/-- Its eight cells. -/
def eight (x : Evt) : List Value := [.string x.kind, .int .u32 x.app, .string x.name, .int .u64 x.seq, .int .u32 x.typ, .int .u32 x.red, .int .i64 x.val, .string x.src]

/-- The eight cells of one event lie from ⟨b, o⟩ on. -/
def Eight (w : World) (b o : Nat) (x : Evt) : Prop :=
  w.cell? ⟨b, o, none⟩ = some (.string x.kind) ∧ w.cell? ⟨b, o + 1, none⟩ = some (.int .u32 x.app) ∧ w.cell? ⟨b, o + 2, none⟩ = some (.string x.name) ∧ w.cell? ⟨b, o + 3, none⟩ = some (.int .u64 x.seq) ∧
  w.cell? ⟨b, o + 4, none⟩ = some (.int .u32 x.typ) ∧ w.cell? ⟨b, o + 5, none⟩ = some (.int .u32 x.red) ∧ w.cell? ⟨b, o + 6, none⟩ = some (.int .i64 x.val) ∧ w.cell? ⟨b, o + 7, none⟩ = some (.string x.src)

theorem Eight.below {B : Nat} {w w' : World} {b o : Nat} {x : Evt} (h : Eight w b o x) (hw : Below B w w') (hb : b < B) : Eight w' b o x := by
  obtain ⟨h0, h1, h2, h3, h4, h5, h6, h7⟩ := h
  exact ⟨(hw.cell hb).trans h0, (hw.cell hb).trans h1, (hw.cell hb).trans h2, (hw.cell hb).trans h3, (hw.cell hb).trans h4, (hw.cell hb).trans h5, (hw.cell hb).trans h6, (hw.cell hb).trans h7⟩

/-- A slice of events: where there is an element, it leads to a row below block B. -/
def Row (w : World) (B : Nat) (a : Option Addr) (len : Nat) (F : Nat → Evt) : Prop :=
  0 < len → ∃ b off, a = some ⟨b, off, none⟩ ∧ b < B ∧ ∀ i, i < len → Eight w b (off + i * 8) (F i)

/-- A bool comes back; the world is as it was. -/
def BoolPost (w : World) (e : Ending) (w' : World) : Prop := ∃ b : Bool, e = .returned (.bool b) ∧ w' = w

set_option maxRecDepth 100000 in
set_option maxHeartbeats 1000000 in
theorem bytes4 (B : Nat) (a : Option Addr) (len cap : Nat) (F : Nat → Evt) (w : World) (hrow : Row w B a len F) :
    Calls Try.prog 4 #[.slice a len cap] w (BoolPost w) := by
  go_enter Try.func4, Try.ntmps4
  go_wp2
  all_goals first | (go_ret; exact ⟨false, rfl, rfl⟩) | skip
  go_loop [3, 4] (fun z i => ∃ (k : Nat) (zz : Int), k ≤ len ∧ i = .int .i64 k ∧ z = .int .i64 zz) (fun _ i => len - (intOf i).toNat)
  case atStart => exact ⟨0, _, Nat.zero_le _, rfl, rfl⟩
  case round =>
    obtain ⟨k, zz, hk, rfl, rfl⟩ := hrel
    by_cases hlt : k < len
    · obtain ⟨b, off, rfl, hbB, hcells⟩ := hrow (by omega)
      obtain ⟨c0, c1, c2, c3, c4, c5, c6, c7⟩ := hcells k hlt
      clear hcells
      go_wp2
      all_goals first | (go_ret; exact ⟨false, rfl, rfl⟩) | skip
      go_round
      case rel => exact ⟨k + 1, _, by omega, by go_num, rfl⟩
      case measure => simp [intOf]; omega
    · go_wp2
      go_ret
      exact ⟨true, rfl, rfl⟩

set_option maxRecDepth 100000 in
theorem toEvent7 (x : Evt) (w : World) :
    Calls Try.prog 7 #[.agg #[.string x.kind, .int .u32 x.app, .string x.name, .int .u64 x.seq, .int .u32 x.typ, .int .u32 x.red, .int .i64 x.val, .string x.src]] w fun e w' =>
      e = .returned (.agg #[.string x.kind, .int .u32 x.app, .string x.name, .int .u64 x.seq, .int .u32 x.typ, .int .u32 x.red, .int .i64 x.val, .string x.src]) ∧
      w' = (w.alloc (.cells #[.string x.kind, .int .u32 x.app, .string x.name, .int .u64 x.seq, .int .u32 x.typ, .int .u32 x.red, .int .i64 x.val, .string x.src] 33)).alloc (.cells #[.string x.kind, .int .u32 x.app, .string x.name, .int .u64 x.seq, .int .u32 x.typ, .int .u32 x.red, .int .i64 x.val, .string x.src] 41) := by
  go_enter Try.func7, Try.ntmps7
  go_wp2
  exact bodyPost_ret (v := .agg #[.string x.kind, .int .u32 x.app, .string x.name, .int .u64 x.seq, .int .u32 x.typ, .int .u32 x.red, .int .i64 x.val, .string x.src]) (by simp [results, Try.results7, go_sem]) rfl ⟨rfl, rfl⟩

set_option maxRecDepth 100000 in
theorem states8 (c : Addr) (w : World) :
    Calls Try.prog 8 #[.func (.func 9) #[] #[.pointer (some c)]] w fun e w' =>
      e = .returned (.pointer (some ⟨w.heap.size + 1 + 1 + 1, 0, none⟩)) ∧
      w' = (((w.alloc (.map #[] 0)).alloc (.map #[] 0)).alloc (.map #[] 0)).alloc (.cells #[.int .i32 0, .int .u32 0, .map (some w.heap.size), .map (some (w.heap.size + 1)), .map (some (w.heap.size + 1 + 1)), .func (.func 9) #[] #[.pointer (some c)]] 55) := by
  have hmm := @run_makeMap Try.prog
  go_enter Try.func8, Try.ntmps8
  go_wp2
  go_ret
  exact ⟨rfl, rfl⟩

set_option maxRecDepth 100000 in
theorem recording5 (r : Addr) (w : World) :
    Calls Try.prog 5 #[.pointer (some r)] w fun e w' =>
      e = .returned (.pointer (some ⟨w.heap.size + 1 + 1 + 1 + 1, 0, none⟩)) ∧
      w' = ((((w.alloc (.cells #[.pointer (some r)] 34)).alloc (.map #[] 0)).alloc (.map #[] 0)).alloc (.map #[] 0)).alloc (.cells #[.int .i32 0, .int .u32 0, .map (some (w.heap.size + 1)), .map (some (w.heap.size + 1 + 1)), .map (some (w.heap.size + 1 + 1 + 1)), .func (.func 9) #[] #[.pointer (some ⟨w.heap.size, 0, none⟩)]] 55) := by
  have hmf : ∀ (fn : Fn) (first cap : Array Value) (w : World), (Instr.makeFunc fn first cap).run Try.prog w = .ok (.func fn first cap) w := fun _ _ _ _ => rfl
  go_enter Try.func5, Try.ntmps5
  go_wp2_with fail
  refine (states8 ⟨w.heap.size, 0, none⟩ _).mono ?_
  rintro e w' ⟨rfl, rfl⟩
  go_wp2_with fail
  go_ret
  exact ⟨by simp, by simp⟩
end Go.Proofs.Qxb6612992a
