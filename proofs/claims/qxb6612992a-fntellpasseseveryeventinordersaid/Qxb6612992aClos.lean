import Derived.Test.Qxb6612992aBase
import Derived.Deep.RegionHeld3
import Derived.Deep.RegionLaw
import Derived.Deep.RegionHeldLaw
import Derived.Laws.Pointers
namespace Go.Proofs.Qxb6612992a
open Go.RowKit

theorem Try.info41 : (Try.prog.info? 41).map (fun i => (i.zero, i.size, i.bytes)) = some (some (.agg #[.string ByteArray.empty, .int .u32 0, .string ByteArray.empty, .int .u64 0, .int .u32 0, .int .u32 0, .int .i64 0, .string ByteArray.empty]), 8, 80) := by kernel_rfl

/-- The recorder: the captured variable in block bx holds the pointer to block r, whose one cell holds a slice of n events, the cells xs, in a row of the call's own. -/
def Rec (w : World) (bx r base : Nat) (n : Nat) (xs : List Value) : Prop :=
  ∃ ao cap, w.cell? ⟨bx, 0, none⟩ = some (.pointer (some ⟨r, 0, none⟩)) ∧ w.cell? ⟨r, 0, none⟩ = some (.slice ao n cap) ∧ w.frozen? ⟨r, 0, none⟩ = false ∧ w.ownsRow base 41 8 (.slice ao n cap) n xs

/-- Below base nothing but block r has turned. -/
structure Keeps (base r : Nat) (w w' : World) : Prop where
  os : w'.os = w.os
  tape : w'.tape = w.tape
  output : w'.output = w.output
  size : w.heap.size ≤ w'.heap.size
  block : ∀ k, k < base → k ≠ r → w'.heap[k]? = w.heap[k]?

def ClosPost (bx r base n : Nat) (xs : List Value) (x : Evt) (w : World) (e : Ending) (w' : World) : Prop :=
  e = .returned (.tuple #[]) ∧ Keeps base r w w' ∧ Rec w' bx r base (n + 1) (xs ++ eight x)

theorem eight_one (x : Evt) : ∀ u ∈ eight x, u.oneCell' = true := by
  intro u hu
  simp [eight] at hu
  rcases hu with rfl | rfl | rfl | rfl | rfl | rfl | rfl | rfl <;> rfl

theorem after_grown {w w1 : World} {o o' : Obj} {row : Option Nat} {b : Nat} (hg : ((w.alloc o).alloc o').drew.grownBy w1 row) (hb : b < w.heap.size) (hne : some b ≠ row) : w1.heap[b]? = w.heap[b]? := by
  rw [hg.block b (by simp; omega) hne]
  exact (((Below.refl w.heap.size w).alloc (Nat.le_refl _) o).alloc (by simp) o').block b hb

/-- The world behind the closure. -/
theorem clos_end {w w1 : World} {o o' : Obj} {bx r base n cap cap' g : Nat} {ao : Option Addr} {xs : List Value} {x : Evt} (hbr : bx ≠ r) (hr : r < base) (hbase : base ≤ w.heap.size)
    (hown : w.ownsRow base 41 8 (.slice ao n cap) n xs) (hown1 : w1.ownsRow base 41 8 (.slice (some ⟨g, 0, none⟩) (n + 1) cap') (n + 1) (xs ++ eight x)) (hgrow : ((w.alloc o).alloc o').drew.grownBy w1 (Value.slice ao n cap).ownBlock)
    (k1 : w1.cell? ⟨bx, 0, none⟩ = some (.pointer (some ⟨r, 0, none⟩))) (k2 : w1.cell? ⟨r, 0, none⟩ = some (.slice ao n cap)) (k3 : w1.frozen? ⟨r, 0, none⟩ = false) :
    ClosPost bx r base n xs x w (.returned (.tuple #[])) (w1.setCell ⟨r, 0, none⟩ (.slice (some ⟨g, 0, none⟩) (n + 1) cap')) := by
  refine ⟨rfl, ⟨hgrow.os, hgrow.tape, hgrow.output, ?_, fun k hk hne => ?_⟩, some ⟨g, 0, none⟩, cap', ?_, ?_, ?_, ?_⟩
  · have := hgrow.size
    simp at this
    simp [World.setCell]
    omega
  · rw [Below.heap_setCell _ _ _ _ (by exact hne)]
    exact after_grown hgrow (by omega) (fun h => by have := (hown.lt k h.symm).1; omega)
  · rw [World.cell?_setCell_other _ _ _ _ (by intro h; exact hbr (congrArg Addr.block h).symm)]
    exact k1
  · exact World.cell?_setCell_same _ _ _ k2
  · simp [k3]
  · exact ownsRow_setCell_below hown1 hr _

theorem lies_alloc (w : World) (t : Nat) (vs : List Value) (c : Nat) (hc : c < vs.length) : (w.alloc (.cells vs.toArray t)).cell? ⟨w.heap.size, c, none⟩ = some (vs.getD c undef) :=
  (World.rowIs_alloc w vs.toArray t (fun i => vs.getD i undef) (fun i hi => by simp at hi; simp [hi])).cell (i := c) (by simpa using hc)

theorem news_new (w : World) (x : Evt) : ∀ j u, (eight x)[j]? = some u → (w.alloc (.cells #[.string x.kind, .int .u32 x.app, .string x.name, .int .u64 x.seq, .int .u32 x.typ, .int .u32 x.red, .int .i64 x.val, .string x.src] 41)).cell? ((⟨w.heap.size, 0, none⟩ : Addr).add j) = some u := by
  intro j u hu
  have hj := (List.getElem?_eq_some_iff.1 hu).1
  have := lies_alloc w 41 (eight x) j hj
  have e : (eight x).getD j undef = u := by simp [List.getD, hu]
  rw [e] at this
  rw [Addr.add_lit, Nat.zero_add]
  exact this

set_option maxRecDepth 100000 in
set_option maxHeartbeats 2000000 in
theorem clos9 (bx r base n : Nat) (xs : List Value) (x : Evt) (w : World) (hR : Rec w bx r base n xs) (hbr : bx ≠ r) (hbx : bx < base) (hr : r < base) (hbase : base ≤ w.heap.size) (hn : n ≤ 70000) :
    Calls Try.prog 9 #[.agg #[.string x.kind, .int .u32 x.app, .string x.name, .int .u64 x.seq, .int .u32 x.typ, .int .u32 x.red, .int .i64 x.val, .string x.src], .pointer (some ⟨bx, 0, none⟩)] w (ClosPost bx r base n xs x w) := by
  obtain ⟨ao, cap, h1, h2, h3, hown⟩ := hR
  obtain ⟨i0, hi, hz0, hz1, hz2⟩ := info_parts Try.info41
  replace hi : Hid _ := hi
  replace hz0 : Hid _ := hz0
  replace hz1 : Hid _ := hz1
  replace hz2 : Hid _ := hz2
  have f1 : ∀ o, (w.alloc o).cell? ⟨bx, 0, none⟩ = some (.pointer (some ⟨r, 0, none⟩)) := fun o => (((Below.refl w.heap.size w).alloc (Nat.le_refl _) o).cell (by show bx < _; omega)).trans h1
  have f1' : ∀ o o', ((w.alloc o).alloc o').cell? ⟨bx, 0, none⟩ = some (.pointer (some ⟨r, 0, none⟩)) := fun o o' => ((((Below.refl w.heap.size w).alloc (Nat.le_refl _) o).alloc (by simp) o').cell (by show bx < _; omega)).trans h1
  have f2 : ∀ o, (w.alloc o).cell? ⟨r, 0, none⟩ = some (.slice ao n cap) := fun o => (((Below.refl w.heap.size w).alloc (Nat.le_refl _) o).cell (by show r < _; omega)).trans h2
  have f2' : ∀ o o', ((w.alloc o).alloc o').cell? ⟨r, 0, none⟩ = some (.slice ao n cap) := fun o o' => ((((Below.refl w.heap.size w).alloc (Nat.le_refl _) o).alloc (by simp) o').cell (by show r < _; omega)).trans h2
  have hown' := ((hown.alloc (.cells #[.string x.kind, .int .u32 x.app, .string x.name, .int .u64 x.seq, .int .u32 x.typ, .int .u32 x.red, .int .i64 x.val, .string x.src] 41)).alloc (.cells #[.string x.kind, .int .u32 x.app, .string x.name, .int .u64 x.seq, .int .u32 x.typ, .int .u32 x.red, .int .i64 x.val, .string x.src] 41)).drew
  have hnews := news_new (w.alloc (.cells #[.string x.kind, .int .u32 x.app, .string x.name, .int .u64 x.seq, .int .u32 x.typ, .int .u32 x.red, .int .i64 x.val, .string x.src] 41)) x
  rw [show (w.alloc (.cells #[.string x.kind, .int .u32 x.app, .string x.name, .int .u64 x.seq, .int .u32 x.typ, .int .u32 x.red, .int .i64 x.val, .string x.src] 41)).heap.size = w.heap.size + 1 by simp] at hnews
  have hb1 : Hid (n + 1 ≤ maxLen) := by unfold maxLen Hid; omega
  have hb2 : Hid ((n + 1) * 80 ≤ 140737488355328) := by unfold Hid; omega
  have hbs : Hid (base ≤ (((w.alloc (.cells #[.string x.kind, .int .u32 x.app, .string x.name, .int .u64 x.seq, .int .u32 x.typ, .int .u32 x.red, .int .i64 x.val, .string x.src] 41)).alloc (.cells #[.string x.kind, .int .u32 x.app, .string x.name, .int .u64 x.seq, .int .u32 x.typ, .int .u32 x.red, .int .i64 x.val, .string x.src] 41)).drew).heap.size) := by unfold Hid; simp; omega
  have hn1 : Hid (some bx ≠ (Value.slice ao n cap).ownBlock) := fun h => by have := (hown.lt bx h.symm).1; omega
  have hn2 : Hid (some r ≠ (Value.slice ao n cap).ownBlock) := fun h => by have := (hown.lt r h.symm).1; omega
  have hx1 : Hid (bx < w.heap.size) := by unfold Hid; omega
  have hx2 : Hid (r < w.heap.size) := by unfold Hid; omega
  replace hown : Hid _ := hown
  replace hown' : Hid _ := hown'
  replace hnews : Hid _ := hnews
  go_enter Try.func9, Try.ntmps9
  go_wp2_with fail
  go_region_law ((refine step_append_lies _ (by rfl) (.tmp 7) (.tmp 9) 35 (by rfl) base 41 i0 _ 8 80 Try.underlying35 hi.out hz0.out hz1.out hz2.out rfl (by decide) (.slice ao n cap) n xs (by simp [Act.eval]) hown'.out ⟨w.heap.size + 1, 0, none⟩ 1 1 (eight x) (by simp [Act.eval]) rfl hnews.out (eight_one x) (by decide) hb1.out hb2.out hbs.out (w.heap.size + 1 + 1) (by simp) ?_; intro g cap' w1 hown1 hgrow hat hlt1; have j1 := after_grown hgrow hx1.out hn1.out; have j2 := after_grown hgrow hx2.out hn2.out; have k1 : w1.cell? ⟨bx, 0, none⟩ = some (.pointer (some ⟨r, 0, none⟩)) := (World.cell?_of_block (w := w) j1).trans h1; have k2 : w1.cell? ⟨r, 0, none⟩ = some (.slice ao n cap) := (World.cell?_of_block (w := w) j2).trans h2; have k3 : w1.frozen? ⟨r, 0, none⟩ = false := (World.frozen?_of_block (w := w) j2).trans h3; replace j1 : Hid _ := j1; replace j2 : Hid _ := j2))
  all_goals
    go_end0
    exact clos_end hbr hr hbase hown.out hown1 hgrow k1 k2 k3
end Go.Proofs.Qxb6612992a
