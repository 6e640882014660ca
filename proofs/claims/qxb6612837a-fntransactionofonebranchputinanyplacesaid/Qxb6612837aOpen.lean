import Derived.Test.Qxb6612837aBase
import Derived.Deep.Slices
namespace Go.Proofs.Qxb6612837a
open Go.RowKit Go.Deep

theorem lt_of_cell {w : World} {a : Addr} {v : Value} (h : w.cell? a = some v) : a.block < w.heap.size := by
  unfold World.cell? at h
  cases hb : w.heap[a.block]? with
  | none => simp [hb] at h
  | some o => exact (Array.getElem?_eq_some_iff.1 hb).1

theorem Try.c2 : Try.prog.cellsOf 2 = 1 := by kernel_rfl
theorem Try.c3 : Try.prog.cellsOf 3 = 1 := by kernel_rfl
theorem Try.c9 : Try.prog.cellsOf 9 = 1 := by kernel_rfl
theorem Try.c45 : Try.prog.cellsOf 45 = 6 := by kernel_rfl

theorem list6 {α : Type} (l : List α) (h : l.length = 6) : ∃ a b c d e f, l = [a, b, c, d, e, f] := by
  rcases l with _ | ⟨a, _ | ⟨b, _ | ⟨c, _ | ⟨d, _ | ⟨e, _ | ⟨f, _ | ⟨g, l⟩⟩⟩⟩⟩⟩⟩ <;> simp at h
  exact ⟨a, b, c, d, e, f, rfl⟩

/-- The cells of one branch, out of its reading. -/
theorem open_branch {H : Type} {enc : TypeId × Value → H} {w : World} {base : Nat} {spare : Nat → Bool} {held : Bool} {n : Nat} {cs : List Value} {x : DataW H × List MemPlace}
    (h : DataW.trod enc Try.prog w base spare held n 45 cs = some x) : ∃ y : Br, cs = [.int .i64 y.id, .string y.mode, .string y.res, .string y.lock, .string y.stat, .int .i64 y.code] := by
  obtain ⟨xs, k, -, -, hlen, hxl, hf⟩ := DataW.trod_struct Try.underlying45 h
  rw [Try.c45] at hlen
  obtain ⟨u0, u1, u2, u3, u4, u5, rfl⟩ := list6 cs hlen
  obtain ⟨x0, x1, x2, x3, x4, x5, rfl⟩ := list6 xs hxl
  have f0 := hf 0 _ rfl
  have f1 := hf 1 _ rfl
  have f2 := hf 2 _ rfl
  have f3 := hf 3 _ rfl
  have f4 := hf 4 _ rfl
  have f5 := hf 5 _ rfl
  simp [Try.c2, Try.c3, Try.c9] at f0 f1 f2 f3 f4 f5
  obtain ⟨a0, e0, -, -⟩ := DataW.trod_int Try.underlying2 f0
  obtain ⟨a1, e1, -, -⟩ := DataW.trod_string Try.underlying9 f1
  obtain ⟨a2, e2, -, -⟩ := DataW.trod_string Try.underlying9 f2
  obtain ⟨a3, e3, -, -⟩ := DataW.trod_string Try.underlying9 f3
  obtain ⟨a4, e4, -, -⟩ := DataW.trod_string Try.underlying9 f4
  obtain ⟨a5, e5, -, -⟩ := DataW.trod_int Try.underlying3 f5
  simp at e0 e1 e2 e3 e4 e5
  subst e0 e1 e2 e3 e4 e5
  exact ⟨⟨a0, a1, a2, a3, a4, a5⟩, rfl⟩

/-- A slice of branches that came in. -/
theorem open_branches {H : Type} {enc : TypeId × Value → H} {w : World} {a : Option Addr} {len cap : Nat} {d : DataW H} {p : List MemPlace}
    (h : DataW.Trod enc Try.prog w 0 (fun _ => true) true 22 (.slice a len cap) d p) :
    (a = none ∧ len = 0 ∧ cap = 0) ∨ ∃ (x : Addr) (F : Nat → Br), a = some x ∧ len ≤ cap ∧ Row w w.heap.size (some x) len F := by
  obtain ⟨fuel, hf⟩ := h
  rcases open_slice Try.underlying22 hf with ⟨hcs, _⟩ | ⟨x, l, c, m, n, D, Pl, hcs, -, hlc, -, hm, -, hx⟩
  · simp [Value.cells] at hcs
    exact .inl hcs
  · simp [Value.cells] at hcs
    obtain ⟨rfl, rfl, rfl⟩ := hcs
    simp at hm
    subst hm
    right
    have hin : Inhabited Br := ⟨⟨0, .empty, .empty, .empty, .empty, 0⟩⟩
    have each : ∀ i, i < m → ∃ y : Br, w.cells? 0 (x.add (i * 6)) 6 = some [.int .i64 y.id, .string y.mode, .string y.res, .string y.lock, .string y.stat, .int .i64 y.code] := by
      intro i hi
      obtain ⟨cs', h1, h2⟩ := hx i hi
      obtain ⟨y, rfl⟩ := open_branch h2
      rw [Try.c45] at h1
      exact ⟨y, h1⟩
    obtain ⟨F, hF⟩ := choose_lt each
    refine ⟨x, F, rfl, hlc, fun hl => ?_⟩
    obtain ⟨b, off, spot⟩ := x
    have hc0 := (World.cells?_some (hF 0 (by omega))).2.2 0 (by omega)
    simp [Addr.add] at hc0
    obtain rfl : spot = none := World.cell?_spot hc0
    refine ⟨b, off, rfl, lt_of_cell hc0, fun i hi => ?_⟩
    obtain ⟨-, -, hc⟩ := World.cells?_some (hF i (by omega))
    have adds : ∀ j, ((⟨b, off, none⟩ : Addr).add (i * 6)).add j = ⟨b, off + i * 6 + j, none⟩ := by
      intro j
      by_cases h1 : i * 6 = 0 <;> by_cases h2 : j = 0 <;> simp [Addr.add, h1, h2] <;> omega
    have g0 := hc 0 (by omega)
    have g1 := hc 1 (by omega)
    have g2 := hc 2 (by omega)
    have g3 := hc 3 (by omega)
    have g4 := hc 4 (by omega)
    have g5 := hc 5 (by omega)
    rw [adds] at g0 g1 g2 g3 g4 g5
    exact ⟨g0, g1, g2, g3, g4, g5⟩
end Go.Proofs.Qxb6612837a
