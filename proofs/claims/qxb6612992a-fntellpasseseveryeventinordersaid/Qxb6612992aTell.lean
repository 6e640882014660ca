import Derived.Test.Qxb6612992aClos
import Derived.Deep.RegionWith
namespace Go.Proofs.Qxb6612992a
open Go.RowKit

theorem Keeps.trans {base r : Nat} {a b c : World} (h : Keeps base r a b) (k : Keeps base r b c) : Keeps base r a c :=
  ⟨k.os.trans h.os, k.tape.trans h.tape, k.output.trans h.output, Nat.le_trans h.size k.size, fun i hi hne => (k.block i hi hne).trans (h.block i hi hne)⟩

theorem Keeps.ofBelow {base r : Nat} {w w' : World} (h : Below base w w') : Keeps base r w w' := ⟨h.os, h.tape, h.output, h.size, fun k hk _ => h.block k hk⟩

theorem Keeps.below {base r B : Nat} {w w' : World} (h : Keeps base r w w') (hB : B ≤ r) (hr : r < base) : Below B w w' := ⟨h.os, h.tape, h.output, h.size, fun k hk => h.block k (by omega) (by omega)⟩

theorem Keeps.cell {base r : Nat} {w w' : World} (h : Keeps base r w w') {b o : Nat} (hb : b < base) (hne : b ≠ r) : w'.cell? ⟨b, o, none⟩ = w.cell? ⟨b, o, none⟩ := World.cell?_of_block (w := w) (h.block b hb hne)

theorem Rec.alloc {w : World} {bx r base n : Nat} {xs : List Value} (h : Rec w bx r base n xs) (hbx : bx < w.heap.size) (hr : r < w.heap.size) (o : Obj) : Rec (w.alloc o) bx r base n xs := by
  obtain ⟨ao, cap, h1, h2, h3, h4⟩ := h
  have hb := (Below.refl w.heap.size w).alloc (Nat.le_refl _) o
  exact ⟨ao, cap, (hb.cell hbx).trans h1, (hb.cell hr).trans h2, (hb.frozen hr).trans h3, h4.alloc o⟩

theorem Rec.drew {w : World} {bx r base n : Nat} {xs : List Value} (h : Rec w bx r base n xs) : Rec w.drew bx r base n xs := h

theorem equal_func_nil (d : Nat) (fn : Fn) (a c : Array Value) (w : World) : (Op.equalIn (d + 1) 44 (.func fn a c) .nilFunc).run Try.prog w = .ok false w := by
  simp [Op.equalIn, run_underlying Try.underlying44]
theorem neq_func_nil (fn : Fn) (a c : Array Value) (w : World) : (binOp .neq 44 (.func fn a c) .nilFunc).run Try.prog w = .ok (.bool true) w := by
  simp only [binOp]
  simp [Op.equal, Op.maxDepth, equal_func_nil 9999]

set_option maxRecDepth 100000 in
set_option maxHeartbeats 1000000 in
theorem tell10 (s bx r base n : Nat) (xs : List Value) (x : Evt) (w : World) (hs : w.cell? ⟨s, 5, none⟩ = some (.func (.func 9) #[] #[.pointer (some ⟨bx, 0, none⟩)]))
    (hR : Rec w bx r base n xs) (hbr : bx ≠ r) (hbx : bx < base) (hr : r < base) (hbase : base ≤ w.heap.size) (hn : n ≤ 70000) :
    Calls Try.prog 10 #[.pointer (some ⟨s, 0, none⟩), .agg #[.string x.kind, .int .u32 x.app, .string x.name, .int .u64 x.seq, .int .u32 x.typ, .int .u32 x.red, .int .i64 x.val, .string x.src]] w (ClosPost bx r base n xs x w) := by
  have hlt : s < w.heap.size := World.block_lt_of_cell? w _ hs
  have hnf := neq_func_nil
  have hs' : ∀ o, (w.alloc o).cell? ⟨s, 5, none⟩ = some (.func (.func 9) #[] #[.pointer (some ⟨bx, 0, none⟩)]) := fun o => (((Below.refl w.heap.size w).alloc (Nat.le_refl _) o).cell hlt).trans hs
  have hR' := (hR.alloc (by omega) (by omega) (.cells #[.string x.kind, .int .u32 x.app, .string x.name, .int .u64 x.seq, .int .u32 x.typ, .int .u32 x.red, .int .i64 x.val, .string x.src] 41)).drew
  have hb' : base ≤ (w.alloc (.cells #[.string x.kind, .int .u32 x.app, .string x.name, .int .u64 x.seq, .int .u32 x.typ, .int .u32 x.red, .int .i64 x.val, .string x.src] 41)).drew.heap.size := by simp; omega
  have hK := Keeps.ofBelow (r := r) ((Below.refl base w).alloc hbase (.cells #[.string x.kind, .int .u32 x.app, .string x.name, .int .u64 x.seq, .int .u32 x.typ, .int .u32 x.red, .int .i64 x.val, .string x.src] 41)).drew
  replace hb' : Hid _ := hb'
  go_enter Try.func10, Try.ntmps10
  go_wp2_with fail
  go_region_with (go_at_call 9; refine (clos9 bx r base n xs x _ hR' hbr hbx hr hb'.out hn).mono ?_; rintro e w1 ⟨rfl, hk1, hR1⟩)
  all_goals
    go_wp2
    go_end0
    exact ⟨rfl, hK.trans hk1, hR1⟩

set_option maxRecDepth 100000 in
set_option maxHeartbeats 1000000 in
theorem tell6 (s bx r base n : Nat) (xs : List Value) (x : Evt) (w : World) (hs : w.cell? ⟨s, 5, none⟩ = some (.func (.func 9) #[] #[.pointer (some ⟨bx, 0, none⟩)]))
    (hR : Rec w bx r base n xs) (hbr : bx ≠ r) (hbx : bx < base) (hr : r < base) (hbase : base ≤ w.heap.size) (hn : n ≤ 70000) :
    Calls Try.prog 6 #[.pointer (some ⟨s, 0, none⟩), .agg #[.string x.kind, .int .u32 x.app, .string x.name, .int .u64 x.seq, .int .u32 x.typ, .int .u32 x.red, .int .i64 x.val, .string x.src]] w (ClosPost bx r base n xs x w) := by
  have hlt : s < w.heap.size := World.block_lt_of_cell? w _ hs
  have hs' : ∀ o, (w.alloc o).cell? ⟨s, 5, none⟩ = some (.func (.func 9) #[] #[.pointer (some ⟨bx, 0, none⟩)]) := fun o => (((Below.refl w.heap.size w).alloc (Nat.le_refl _) o).cell hlt).trans hs
  have hR' := hR.alloc (by omega) (by omega) (.cells #[.string x.kind, .int .u32 x.app, .string x.name, .int .u64 x.seq, .int .u32 x.typ, .int .u32 x.red, .int .i64 x.val, .string x.src] 41)
  have hK := Keeps.ofBelow (r := r) ((Below.refl base w).alloc hbase (.cells #[.string x.kind, .int .u32 x.app, .string x.name, .int .u64 x.seq, .int .u32 x.typ, .int .u32 x.red, .int .i64 x.val, .string x.src] 41))
  go_enter Try.func6, Try.ntmps6
  go_wp2_with fail
  refine (tell10 s bx r base n xs x _ (hs' _) hR' hbr hbx hr (by simp; omega) hn).mono ?_
  rintro e w1 ⟨rfl, hk1, hR1⟩
  go_wp2_with fail
  go_end0
  exact ⟨rfl, hK.trans hk1, hR1⟩
end Go.Proofs.Qxb6612992a
