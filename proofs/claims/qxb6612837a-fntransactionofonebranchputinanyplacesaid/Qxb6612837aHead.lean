import Derived.Test.Qxb6612837aTx
import Derived.Deep.Draws
namespace Go.Proofs.Qxb6612837a
open Go.RowKit

def TruePost (w : World) (e : Ending) (w' : World) : Prop := e = .returned (.bool true) ∧ Below w.heap.size w w'

set_option maxRecDepth 100000 in
theorem head12 (xid name : ByteArray) (code : Int) (v : Value) (hv : ∃ a n c, v = .slice a n c) (w : World) :
    Calls Try.prog 12 #[.agg #[.string xid, .string name, .int .i64 code, v], .string xid, .string name, .int .i64 code] w (TruePost w) := by
  obtain ⟨a, n, c, rfl⟩ := hv
  go_enter Try.func12, Try.ntmps12
  go_wp2
  go_ret
  exact ⟨rfl, (Below.refl _ _).alloc (Nat.le_refl _) _⟩

set_option maxRecDepth 100000 in
theorem branch13 (x : Br) (w : World) :
    Calls Try.prog 13 #[.agg #[.int .i64 x.id, .string x.mode, .string x.res, .string x.lock, .string x.stat, .int .i64 x.code]] w fun e w' =>
      e = .returned (.agg #[.int .i64 x.id, .string x.mode, .string x.res, .string x.lock, .int .i64 x.code]) ∧
      w' = (w.alloc (.cells #[.int .i64 x.id, .string x.mode, .string x.res, .string x.lock, .string x.stat, .int .i64 x.code] 45)).alloc (.cells #[.int .i64 x.id, .string x.mode, .string x.res, .string x.lock, .int .i64 x.code] 42) := by
  go_enter Try.func13, Try.ntmps13
  go_wp2
  exact bodyPost_ret (v := .agg #[.int .i64 x.id, .string x.mode, .string x.res, .string x.lock, .int .i64 x.code]) (by simp [results, Try.results13, go_sem]) rfl ⟨rfl, rfl⟩

/-- A variable of type Transaction whose branches are nil. -/
def NVar (w : World) (b : Nat) (xid name : ByteArray) (code : Int) : Prop :=
  Lies w b 0 [.string xid, .string name, .int .i64 code, .slice none 0 0] ∧ b < w.heap.size

theorem NVar.below {w w' : World} {b : Nat} {xid name : ByteArray} {code : Int} (h : NVar w b xid name code) (hb : Below w.heap.size w w') : NVar w' b xid name code :=
  ⟨h.1.below hb h.2, Nat.lt_of_lt_of_le h.2 hb.size⟩

theorem NVar.new (w : World) (xid name : ByteArray) (code : Int) : NVar (w.alloc (.cells #[.string xid, .string name, .int .i64 code, .slice none 0 0] 29)) w.heap.size xid name code :=
  ⟨lies_alloc w 29 [.string xid, .string name, .int .i64 code, .slice none 0 0], by simp⟩

theorem NVar.cells {w : World} {b : Nat} {xid name : ByteArray} {code : Int} (h : NVar w b xid name code) :
    w.cell? ⟨b, 0, none⟩ = some (.string xid) ∧ w.cell? ⟨b, 1, none⟩ = some (.string name) ∧ w.cell? ⟨b, 2, none⟩ = some (.int .i64 code) ∧ w.cell? ⟨b, 3, none⟩ = some (.slice none 0 0) :=
  ⟨h.1 0 (by simp), h.1 1 (by simp), h.1 2 (by simp), h.1 3 (by simp)⟩

theorem below_drewN (w : World) (B n : Nat) : Below B w (w.drewN n) := ⟨rfl, rfl, rfl, Nat.le_refl _, fun _ _ => rfl⟩

/-- The law's end. -/
def LawPost (w : World) (e : Ending) (w' : World) : Prop := e = .returned (.bool true) ∧ Below w.heap.size w w'

theorem kept2 {w : World} {g o : Nat} {v : Value} {o1 o2 : Obj} (h : w.cell? ⟨g, o, none⟩ = some v) (hg : g < w.heap.size) : ((w.alloc o1).alloc o2).cell? ⟨g, o, none⟩ = some v :=
  ((((Below.refl w.heap.size w).alloc (Nat.le_refl _) o1).alloc (by simp) o2).cell hg).trans h

theorem row_of_lies {w : World} {B g len : Nat} {F : Nat → Br} (h : ∀ i, i < len → Lies w g (i * 6) (six (F i))) (hg : g < B) : Row w B (some ⟨g, 0, none⟩) len F :=
  fun _ => ⟨g, 0, rfl, hg, fun i hi => by rw [Nat.zero_add]; exact (h i hi).six⟩

theorem Try.cells45 : Try.prog.cellsOf 45 = 6 := by kernel_rfl
theorem Try.elem22 : Try.prog.elem 22 = 45 := by simp [Program.elem, Try.underlying22]

/-- 'bs[k:]': where it leads. -/
theorem from22 (x : Addr) (len cap k : Nat) (hk : k ≤ len) : ∃ A : Addr, (A = if cap = k then x else x.add (k * 6)) ∧
    ∀ w : World, (Instr.slice 22 (.slice (some x) len cap) (some (.int .i64 (k : Int))) none none).run Try.prog w = .ok (.slice (some A) (len - k) (cap - k)) w := by
  refine ⟨_, rfl, fun w => ?_⟩
  rw [run_slice_l w 22 (some x) len cap (by rw [Try.elem22]; exact Try.underlying22) .i64 k (by omega) (by omega)]
  have hs : (sizeOf (Try.prog.elem 22)).run Try.prog w = .ok 6 w := by
    obtain ⟨i, hi, hz⟩ := Option.map_eq_some_iff.1 (show (Try.prog.info? 45).map (fun i => i.size) = some 6 from by kernel_rfl)
    rw [Try.elem22]
    simp [sizeOf, typeInfo, hi, hz]
  rw [hs]
  simp only [Result.andThen, sliced, Int.toNat_natCast]
  split <;> rfl

theorem row_from {w : World} {B : Nat} {x A : Addr} {len cap k : Nat} {F : Nat → Br} (h : Row w B (some x) len F) (hlc : len ≤ cap) (hk : k ≤ len) (hA : A = if cap = k then x else x.add (k * 6)) : Row w B (some A) (len - k) (fun i => F (k + i)) := by
  intro hl
  obtain ⟨b, off, hx, hb, hc⟩ := h (by omega)
  obtain rfl : x = ⟨b, off, none⟩ := by simpa using hx
  rw [if_neg (by omega)] at hA
  refine ⟨b, off + k * 6, ?_, hb, fun i hi => ?_⟩
  · subst hA
    by_cases h0 : k = 0
    · simp [Addr.add, h0]
    · rw [Addr.add, if_neg (by omega)]
  · have := hc (k + i) (by omega)
    rwa [show off + (k + i) * 6 = off + k * 6 + i * 6 from by omega] at this

/-- A variable of type Transaction in block b: its four cells, and its branches. -/
def Var (w : World) (b : Nat) (xid name : ByteArray) (code : Int) (g n : Nat) (F : Nat → Br) : Prop :=
  Lies w b 0 (txcells xid name code g n) ∧ b < w.heap.size ∧ g < w.heap.size ∧ ∀ i, i < n → Lies w g (i * 5) (five (F i))

theorem Var.below {w w' : World} {b : Nat} {xid name : ByteArray} {code : Int} {g n : Nat} {F : Nat → Br} (h : Var w b xid name code g n F) (hb : Below w.heap.size w w') : Var w' b xid name code g n F := by
  obtain ⟨h1, h2, h3, h4⟩ := h
  have := hb.size
  exact ⟨h1.below hb h2, by omega, by omega, fun i hi => (h4 i hi).below hb h3⟩

theorem Var.new {w : World} {xid name : ByteArray} {code : Int} {g n : Nat} {F : Nat → Br} (hg : g < w.heap.size) (h : ∀ i, i < n → Lies w g (i * 5) (five (F i))) :
    Var (w.alloc (.cells #[.string xid, .string name, .int .i64 code, .slice (some ⟨g, 0, none⟩) n n] 29)) w.heap.size xid name code g n F := by
  refine ⟨lies_alloc w 29 (txcells xid name code g n), by simp, by simp; omega, fun i hi => (h i hi).alloc hg _⟩

theorem Var.cells {w : World} {b : Nat} {xid name : ByteArray} {code : Int} {g n : Nat} {F : Nat → Br} (h : Var w b xid name code g n F) :
    w.cell? ⟨b, 0, none⟩ = some (.string xid) ∧ w.cell? ⟨b, 1, none⟩ = some (.string name) ∧ w.cell? ⟨b, 2, none⟩ = some (.int .i64 code) ∧ w.cell? ⟨b, 3, none⟩ = some (.slice (some ⟨g, 0, none⟩) n n) := by
  obtain ⟨h1, -, -, -⟩ := h
  have t0 := h1 0 (by simp [txcells])
  have t1 := h1 1 (by simp [txcells])
  have t2 := h1 2 (by simp [txcells])
  have t3 := h1 3 (by simp [txcells])
  simp [txcells] at t0 t1 t2 t3
  exact ⟨t0, t1, t2, t3⟩

theorem Var.at {w : World} {b : Nat} {xid name : ByteArray} {code : Int} {g n : Nat} {F : Nat → Br} (h : Var w b xid name code g n F) {i : Nat} (hi : i < n) :
    w.cell? ⟨g, i * 5, none⟩ = some (.int .i64 (F i).id) ∧ w.cell? ⟨g, i * 5 + 1, none⟩ = some (.string (F i).mode) ∧ w.cell? ⟨g, i * 5 + 2, none⟩ = some (.string (F i).res) ∧ w.cell? ⟨g, i * 5 + 3, none⟩ = some (.string (F i).lock) ∧ w.cell? ⟨g, i * 5 + 4, none⟩ = some (.int .i64 (F i).code) := by
  obtain ⟨-, -, -, h1⟩ := h
  have t0 := h1 i hi 0 (by simp [five])
  have t1 := h1 i hi 1 (by simp [five])
  have t2 := h1 i hi 2 (by simp [five])
  have t3 := h1 i hi 3 (by simp [five])
  have t4 := h1 i hi 4 (by simp [five])
  simp [five] at t0 t1 t2 t3 t4
  exact ⟨t0, t1, t2, t3, t4⟩
end Go.Proofs.Qxb6612837a
