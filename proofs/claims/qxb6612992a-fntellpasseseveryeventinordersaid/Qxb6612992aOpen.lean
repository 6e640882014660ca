import Derived.Test.Qxb6612992aBase
import Derived.Deep.Slices
namespace Go.Proofs.Qxb6612992a
open Go.RowKit Go.Deep

theorem lt_of_cell {w : World} {a : Addr} {v : Value} (h : w.cell? a = some v) : a.block < w.heap.size := World.block_lt_of_cell? w a h

theorem Try.c24 : Try.prog.cellsOf 24 = 1 := by kernel_rfl
theorem Try.c26 : Try.prog.cellsOf 26 = 1 := by kernel_rfl
theorem Try.c9 : Try.prog.cellsOf 9 = 1 := by kernel_rfl
theorem Try.c31 : Try.prog.cellsOf 31 = 5 := by kernel_rfl
theorem Try.c33 : Try.prog.cellsOf 33 = 8 := by kernel_rfl
theorem Try.c27 : Try.prog.cellsOf 27 = 1 := by kernel_rfl
theorem Try.c28 : Try.prog.cellsOf 28 = 1 := by kernel_rfl
theorem Try.c25 : Try.prog.cellsOf 25 = 1 := by kernel_rfl
theorem Try.c29 : Try.prog.cellsOf 29 = 1 := by kernel_rfl

theorem list8 {α : Type} (l : List α) (h : l.length = 8) : ∃ a b c d e f g i, l = [a, b, c, d, e, f, g, i] := by
  rcases l with _ | ⟨a, _ | ⟨b, _ | ⟨c, _ | ⟨d, _ | ⟨e, _ | ⟨f, _ | ⟨g, _ | ⟨i, _ | ⟨j, l⟩⟩⟩⟩⟩⟩⟩⟩⟩ <;> simp at h
  exact ⟨a, b, c, d, e, f, g, i, rfl⟩
theorem list4 {α : Type} (l : List α) (h : l.length = 4) : ∃ a b c d, l = [a, b, c, d] := by
  rcases l with _ | ⟨a, _ | ⟨b, _ | ⟨c, _ | ⟨d, _ | ⟨e, l⟩⟩⟩⟩⟩ <;> simp at h
  exact ⟨a, b, c, d, rfl⟩
theorem list5 {α : Type} (l : List α) (h : l.length = 5) : ∃ a b c d e, l = [a, b, c, d, e] := by
  rcases l with _ | ⟨a, _ | ⟨b, _ | ⟨c, _ | ⟨d, _ | ⟨e, _ | ⟨f, l⟩⟩⟩⟩⟩⟩ <;> simp at h
  exact ⟨a, b, c, d, e, rfl⟩

/-- The cells of one event, out of its reading. -/
theorem open_event {H : Type} {enc : TypeId × Value → H} {w : World} {base : Nat} {spare : Nat → Bool} {held : Bool} {n : Nat} {cs : List Value} {x : DataW H × List MemPlace}
    (h : DataW.trod enc Try.prog w base spare held n 33 cs = some x) : ∃ y : Evt, cs = eight y := by
  obtain ⟨xs, k, -, -, hlen, hxl, hf⟩ := DataW.trod_struct Try.underlying33 h
  rw [Try.c33] at hlen
  obtain ⟨u0, u1, u2, u3, u4, u5, u6, u7, rfl⟩ := list8 cs hlen
  obtain ⟨x0, x1, x2, x3, rfl⟩ := list4 xs hxl
  have f0 := hf 0 _ rfl
  have f1 := hf 1 _ rfl
  have f2 := hf 2 _ rfl
  have f3 := hf 3 _ rfl
  simp [Try.c24, Try.c26, Try.c9, Try.c31] at f0 f1 f2 f3
  obtain ⟨a0, e0, -, -⟩ := DataW.trod_string Try.underlying24 f0
  obtain ⟨a1, e1, -, -⟩ := DataW.trod_int Try.underlying26 f1
  obtain ⟨a2, e2, -, -⟩ := DataW.trod_string Try.underlying9 f2
  obtain ⟨ys, m, -, -, -, hyl, hg⟩ := DataW.trod_struct Try.underlying31 f3
  obtain ⟨y0, y1, y2, y3, y4, rfl⟩ := list5 ys hyl
  have g0 := hg 0 _ rfl
  have g1 := hg 1 _ rfl
  have g2 := hg 2 _ rfl
  have g3 := hg 3 _ rfl
  have g4 := hg 4 _ rfl
  simp [Try.c27, Try.c28, Try.c25, Try.c29, Try.c9] at g0 g1 g2 g3 g4
  obtain ⟨b0, r0, -, -⟩ := DataW.trod_int Try.underlying27 g0
  obtain ⟨b1, r1, -, -⟩ := DataW.trod_int Try.underlying28 g1
  obtain ⟨b2, r2, -, -⟩ := DataW.trod_int Try.underlying25 g2
  obtain ⟨b3, r3, -, -⟩ := DataW.trod_int Try.underlying29 g3
  obtain ⟨b4, r4, -, -⟩ := DataW.trod_string Try.underlying9 g4
  simp at e0 e1 e2 r0 r1 r2 r3 r4
  subst e0 e1 e2 r0 r1 r2 r3 r4
  exact ⟨⟨a0, a1, a2, b0, b1, b2, b3, b4⟩, rfl⟩

/-- A slice of events that came in. -/
theorem open_events {H : Type} {enc : TypeId × Value → H} {w : World} {a : Option Addr} {len cap : Nat} {d : DataW H} {p : List MemPlace}
    (h : DataW.Trod enc Try.prog w 0 (fun _ => true) true 22 (.slice a len cap) d p) : ∃ F : Nat → Evt, Row w w.heap.size a len F := by
  have hin : Inhabited Evt := ⟨⟨.empty, 0, .empty, 0, 0, 0, 0, .empty⟩⟩
  obtain ⟨fuel, hf⟩ := h
  rcases open_slice Try.underlying22 hf with ⟨hcs, _⟩ | ⟨x, l, c, m, n, D, Pl, hcs, -, hlc, -, hm, -, hx⟩
  · simp [Value.cells] at hcs
    obtain ⟨rfl, rfl, rfl⟩ := hcs
    exact ⟨fun _ => ⟨.empty, 0, .empty, 0, 0, 0, 0, .empty⟩, fun h => absurd h (Nat.lt_irrefl 0)⟩
  · simp [Value.cells] at hcs
    obtain ⟨rfl, rfl, rfl⟩ := hcs
    simp at hm
    subst hm
    have each : ∀ i, i < m → ∃ y : Evt, w.cells? 0 (x.add (i * 8)) 8 = some (eight y) := by
      intro i hi
      obtain ⟨cs', h1, h2⟩ := hx i hi
      obtain ⟨y, rfl⟩ := open_event h2
      rw [Try.c33] at h1
      exact ⟨y, h1⟩
    obtain ⟨F, hF⟩ := choose_lt each
    refine ⟨F, fun hl => ?_⟩
    obtain ⟨b, off, spot⟩ := x
    have hc0 := (World.cells?_some (hF 0 (by omega))).2.2 0 (by omega)
    simp [Addr.add, eight] at hc0
    obtain rfl : spot = none := World.cell?_spot hc0
    refine ⟨b, off, rfl, lt_of_cell hc0, fun i hi => ?_⟩
    obtain ⟨-, -, hc⟩ := World.cells?_some (hF i (by omega))
    have adds : ∀ j, ((⟨b, off, none⟩ : Addr).add (i * 8)).add j = ⟨b, off + i * 8 + j, none⟩ := by
      intro j
      by_cases h1 : i * 8 = 0 <;> by_cases h2 : j = 0 <;> simp [Addr.add, h1, h2] <;> omega
    have g0 := hc 0 (by omega)
    have g1 := hc 1 (by omega)
    have g2 := hc 2 (by omega)
    have g3 := hc 3 (by omega)
    have g4 := hc 4 (by omega)
    have g5 := hc 5 (by omega)
    have g6 := hc 6 (by omega)
    have g7 := hc 7 (by omega)
    rw [adds] at g0 g1 g2 g3 g4 g5 g6 g7
    exact ⟨g0, g1, g2, g3, g4, g5, g6, g7⟩
end Go.Proofs.Qxb6612992a
