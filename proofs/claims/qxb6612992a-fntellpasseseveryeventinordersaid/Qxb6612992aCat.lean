import Derived.Test.Qxb6612992aTell
namespace Go.Proofs.Qxb6612992a
open Go.RowKit

/-- The cells of n events, one behind the other. -/
def cat (n : Nat) (F : Nat → Evt) : List Value := (List.range n).flatMap fun i => eight (F i)

theorem cat_succ (n : Nat) (F : Nat → Evt) : cat (n + 1) F = cat n F ++ eight (F n) := by simp [cat, List.range_succ]

theorem cat_length (n : Nat) (F : Nat → Evt) : (cat n F).length = n * 8 := by
  induction n with
  | zero => rfl
  | succ n ih => rw [cat_succ, List.length_append, ih]; simp [eight]; omega

theorem cat_get (n : Nat) (F : Nat → Evt) (i c : Nat) (hi : i < n) (hc : c < 8) : (cat n F)[i * 8 + c]? = (eight (F i))[c]? := by
  induction n with
  | zero => omega
  | succ n ih =>
    rw [cat_succ]
    by_cases h : i < n
    · rw [List.getElem?_append_left (by rw [cat_length]; omega)]
      exact ih h
    · obtain rfl : i = n := by omega
      rw [List.getElem?_append_right (by rw [cat_length]; omega), cat_length]
      congr 1
      omega

/-- What is owned, event by event. -/
theorem own_eight {w : World} {base g n cap : Nat} {F : Nat → Evt} (h : w.ownsRow base 41 8 (.slice (some ⟨g, 0, none⟩) n cap) n (cat n F)) : ∀ i, i < n → Eight w g (i * 8) (F i) := by
  intro i hi
  have hc : ∀ c, c < 8 → w.cell? ⟨g, i * 8 + c, none⟩ = (eight (F i))[c]? := by
    intro c hc
    have hg := cat_get n F i c hi hc
    obtain ⟨u, hu⟩ : ∃ u, (eight (F i))[c]? = some u := ⟨_, List.getElem?_eq_getElem (by simpa [eight] using hc)⟩
    rw [hu] at hg ⊢
    have := h.cells rfl _ u hg
    rw [Addr.add_lit, Nat.zero_add] at this
    exact this
  exact ⟨hc 0 (by omega), hc 1 (by omega), hc 2 (by omega), hc 3 (by omega), hc 4 (by omega), hc 5 (by omega), hc 6 (by omega), hc 7 (by omega)⟩

theorem below_drewN (w : World) (B n : Nat) : Below B w (w.drewN n) := ⟨rfl, rfl, rfl, Nat.le_refl _, fun _ _ => rfl⟩

theorem kept2 {w : World} {g o : Nat} {v : Value} {o1 o2 : Obj} (h : w.cell? ⟨g, o, none⟩ = some v) (hg : g < w.heap.size) : ((w.alloc o1).alloc o2).cell? ⟨g, o, none⟩ = some v :=
  ((((Below.refl w.heap.size w).alloc (Nat.le_refl _) o1).alloc (by simp) o2).cell hg).trans h

/-- What the second loop keeps: k events have been told. -/
def Told (B s bx r base k : Nat) (F : Nat → Evt) (w wr : World) : Prop :=
  Below B w wr ∧ base ≤ wr.heap.size ∧ wr.cell? ⟨s, 5, none⟩ = some (.func (.func 9) #[] #[.pointer (some ⟨bx, 0, none⟩)]) ∧ Rec wr bx r base k (cat k F)

theorem told_step {B s bx r base k : Nat} {F : Nat → Evt} {w wr w1 w2 : World} {e : Ending} (h : Told B s bx r base k F w wr) (hb : Below wr.heap.size wr w1) (hp : ClosPost bx r base k (cat k F) (F k) w1 e w2)
    (hB : B ≤ r) (hr : r < base) (hs : s < base) (hsr : s ≠ r) : Told B s bx r base (k + 1) F w w2 := by
  obtain ⟨h1, h2, h3, h4⟩ := h
  obtain ⟨-, p1, p2⟩ := hp
  refine ⟨(h1.trans (hb.mono (by omega))).trans (p1.below hB hr), ?_, ?_, ?_⟩
  · have := hb.size; have := p1.size; omega
  · rw [p1.cell hs hsr, hb.cell (by show s < _; omega)]
    exact h3
  · rw [cat_succ]
    exact p2

theorem told_rec {B s bx r base k : Nat} {F : Nat → Evt} {w wr w1 : World} (h : Told B s bx r base k F w wr) (hb : Below wr.heap.size wr w1) (hbx : bx < base) (hr : r < base) : Rec w1 bx r base k (cat k F) := by
  obtain ⟨h1, h2, h3, ao, cap, g1, g2, g3, g4⟩ := h
  refine ⟨ao, cap, (hb.cell (by show bx < _; omega)).trans g1, (hb.cell (by show r < _; omega)).trans g2, (hb.frozen (by show r < _; omega)).trans g3, ?_⟩
  refine ⟨g4.1, ?_⟩
  rcases g4.2 with h0 | ⟨g, cap', cur, hv, hg, hh, rest⟩
  · exact .inl h0
  · exact .inr ⟨g, cap', cur, hv, hg, by rw [hb.block g (Array.getElem?_eq_some_iff.1 hh).1]; exact hh, rest⟩

/-- What the third loop keeps. -/
def Done (B r len cap : Nat) (ao : Option Addr) (F : Nat → Evt) (w wr : World) : Prop :=
  Below B w wr ∧ r < wr.heap.size ∧ wr.cell? ⟨r, 0, none⟩ = some (.slice ao len cap) ∧ (0 < len → ∃ g, ao = some ⟨g, 0, none⟩ ∧ g < wr.heap.size ∧ ∀ i, i < len → Eight wr g (i * 8) (F i))

theorem Done.step {B r len cap : Nat} {ao : Option Addr} {F : Nat → Evt} {w wr w1 : World} (h : Done B r len cap ao F w wr) (hb : Below wr.heap.size wr w1) (hB : B ≤ wr.heap.size) : Done B r len cap ao F w w1 := by
  obtain ⟨h1, h2, h3, h4⟩ := h
  have := hb.size
  refine ⟨h1.trans (hb.mono hB), by omega, (hb.cell h2).trans h3, fun hl => ?_⟩
  obtain ⟨g, ha, hg, he⟩ := h4 hl
  exact ⟨g, ha, by omega, fun i hi => (he i hi).below hb hg⟩

theorem done_of_told {B s bx r base len : Nat} {F : Nat → Evt} {w wr : World} (h : Told B s bx r base len F w wr) (hr : r < base) : ∃ ao cap, Done B r len cap ao F w wr := by
  obtain ⟨h1, h2, h3, ao, cap, g1, g2, g3, g4⟩ := h
  refine ⟨ao, cap, h1, by omega, g2, fun hl => ?_⟩
  obtain ⟨g, c, hv, hb, hlt⟩ := g4.form hl
  simp at hv
  obtain ⟨rfl, rfl⟩ := hv
  exact ⟨g, rfl, hlt, own_eight g4⟩

/-- Nothing has been told yet. -/
theorem told_start (F : Nat → Evt) (w : World) (n : Nat) :
    Told w.heap.size (w.heap.size + 1 + 1 + 1 + 1 + 1) (w.heap.size + 1) w.heap.size (w.heap.size + 1 + 1 + 1 + 1 + 1 + 1) 0 F w
      ((((((w.drewN n).alloc (.cells #[.slice none 0 0] 37)).alloc (.cells #[.pointer (some ⟨w.heap.size, 0, none⟩)] 34)).alloc (.map #[] 0)).alloc (.map #[] 0)).alloc (.map #[] 0) |>.alloc (.cells #[.int .i32 0, .int .u32 0, .map (some (w.heap.size + 1 + 1)), .map (some (w.heap.size + 1 + 1 + 1)), .map (some (w.heap.size + 1 + 1 + 1 + 1)), .func (.func 9) #[] #[.pointer (some ⟨w.heap.size + 1, 0, none⟩)]] 55)) := by
  have key : ∀ (v : World), v.heap.size = w.heap.size → Below w.heap.size w v → Told w.heap.size (w.heap.size + 1 + 1 + 1 + 1 + 1) (w.heap.size + 1) w.heap.size (w.heap.size + 1 + 1 + 1 + 1 + 1 + 1) 0 F w
      (((((v.alloc (.cells #[.slice none 0 0] 37)).alloc (.cells #[.pointer (some ⟨w.heap.size, 0, none⟩)] 34)).alloc (.map #[] 0)).alloc (.map #[] 0)).alloc (.map #[] 0) |>.alloc (.cells #[.int .i32 0, .int .u32 0, .map (some (w.heap.size + 1 + 1)), .map (some (w.heap.size + 1 + 1 + 1)), .map (some (w.heap.size + 1 + 1 + 1 + 1)), .func (.func 9) #[] #[.pointer (some ⟨w.heap.size + 1, 0, none⟩)]] 55)) := by
    intro v hv hb
    have f0 := lies_alloc v 37 [.slice none 0 0] 0 (by simp)
    have b1 := (Below.refl (v.alloc (.cells #[.slice none 0 0] 37)).heap.size (v.alloc (.cells #[.slice none 0 0] 37))).alloc (Nat.le_refl _) (.cells #[.pointer (some ⟨w.heap.size, 0, none⟩)] 34)
    have f1 := lies_alloc (v.alloc (.cells #[.slice none 0 0] 37)) 34 [.pointer (some ⟨w.heap.size, 0, none⟩)] 0 (by simp)
    generalize hv1 : v.alloc (.cells #[.slice none 0 0] 37) = v1 at *
    have z1 : v1.heap.size = w.heap.size + 1 := by rw [← hv1]; simp [hv]
    have hfz : (v1.alloc (.cells #[.pointer (some ⟨w.heap.size, 0, none⟩)] 34)).frozen? ⟨w.heap.size, 0, none⟩ = false := by
      rw [b1.frozen (by show w.heap.size < _; omega), ← hv1]
      have : (v.alloc (.cells #[.slice none 0 0] 37)).frozen? ⟨v.heap.size, 0, none⟩ = false := by simp
      rwa [hv] at this
    have hb1 : Below w.heap.size w v1 := by rw [← hv1]; exact hb.alloc (by omega) _
    rw [hv] at f0
    rw [z1] at f1
    have c0 := (b1.cell (p := ⟨w.heap.size, 0, none⟩) (by show w.heap.size < _; omega)).trans f0
    have hb2 := hb1.alloc (by omega) (.cells #[.pointer (some ⟨w.heap.size, 0, none⟩)] 34)
    generalize hv2 : v1.alloc (.cells #[.pointer (some ⟨w.heap.size, 0, none⟩)] 34) = v2 at *
    have z2 : v2.heap.size = w.heap.size + 1 + 1 := by rw [← hv2]; simp [z1]
    have hb3 := (((Below.refl v2.heap.size v2).alloc (Nat.le_refl _) (.map #[] 0)).alloc (by simp) (.map #[] 0)).alloc (by simp; omega) (.map #[] 0)
    have f5 := lies_alloc (((v2.alloc (.map #[] 0)).alloc (.map #[] 0)).alloc (.map #[] 0)) 55 [.int .i32 0, .int .u32 0, .map (some (w.heap.size + 1 + 1)), .map (some (w.heap.size + 1 + 1 + 1)), .map (some (w.heap.size + 1 + 1 + 1 + 1)), .func (.func 9) #[] #[.pointer (some ⟨w.heap.size + 1, 0, none⟩)]] 5 (by simp)
    have z3 : (((v2.alloc (.map #[] 0)).alloc (.map #[] 0)).alloc (.map #[] 0)).heap.size = w.heap.size + 1 + 1 + 1 + 1 + 1 := by simp [z2]
    rw [z3] at f5
    have hb4 := hb3.alloc (by rw [z3]; omega) (.cells #[.int .i32 0, .int .u32 0, .map (some (w.heap.size + 1 + 1)), .map (some (w.heap.size + 1 + 1 + 1)), .map (some (w.heap.size + 1 + 1 + 1 + 1)), .func (.func 9) #[] #[.pointer (some ⟨w.heap.size + 1, 0, none⟩)]] 55)
    refine ⟨hb2.trans (hb4.mono (by omega)), by simp [z2], f5, none, 0, ?_, ?_, ?_, World.ownsRow_nil _ _ _ _⟩
    · exact (hb4.cell (by show w.heap.size + 1 < _; omega)).trans f1
    · exact (hb4.cell (by show w.heap.size < _; omega)).trans c0
    · exact (hb4.frozen (by show w.heap.size < _; omega)).trans hfz
  exact key (w.drewN n) rfl (below_drewN w _ n)
end Go.Proofs.Qxb6612992a
