import Derived.Deep.OwnRows
import Derived.Below
namespace Go.Proofs.Qxb6612837a
open Go.RowKit

/-- Cells written one behind the other. -/
def putAll (w : World) (g : Nat) : Nat → List Value → World
  | _, [] => w
  | o, v :: vs => putAll (w.setCell ⟨g, o, none⟩ v) g (o + 1) vs

/-- The block g is a row of n cells of type t, none frozen. -/
def Has (w : World) (g t n : Nat) : Prop := ∃ f, w.rowIs g t n f

theorem putAll_row {g t n : Nat} (vs : List Value) : ∀ (w : World) (o : Nat) (f : Nat → Value), w.rowIs g t n f → (putAll w g o vs).rowIs g t n (fun j => if o ≤ j ∧ j < o + vs.length then vs.getD (j - o) undef else f j) := by
  induction vs with
  | nil => intro w o f h; exact h.congr fun i _ => by simp; omega
  | cons v vs ih =>
    intro w o f h
    refine (ih _ (o + 1) _ (h.set o v)).congr fun i _ => ?_
    by_cases e : i = o
    · subst e; simp; intro h; omega
    · by_cases h1 : o + 1 ≤ i ∧ i < o + 1 + vs.length
      · rw [if_pos h1, if_pos ⟨by omega, by simp; omega⟩]
        obtain ⟨d, hd⟩ : ∃ d, i - o = d + 1 := ⟨i - o - 1, by omega⟩
        rw [hd, show i - (o + 1) = d from by omega]
        simp
      · rw [if_neg h1, if_neg e, if_neg (by rw [List.length_cons]; omega)]

theorem putAll_below {B g : Nat} {w : World} (hg : B ≤ g) (vs : List Value) : ∀ (w' : World) (o : Nat), Below B w w' → Below B w (putAll w' g o vs) := by
  induction vs with
  | nil => intro w' o h; exact h
  | cons v vs ih => intro w' o h; exact ih _ _ (h.setCell (by exact hg) v)

theorem putAll_size {g : Nat} (vs : List Value) : ∀ (w' : World) (o : Nat), (putAll w' g o vs).heap.size = w'.heap.size := by
  induction vs with
  | nil => intro w' o; rfl
  | cons v vs ih => intro w' o; rw [putAll, ih]; simp [World.setCell]

theorem putAll_other {g g' t n : Nat} {f : Nat → Value} (hne : g' ≠ g) (vs : List Value) : ∀ (w : World) (o : Nat), w.rowIs g' t n f → (putAll w g o vs).rowIs g' t n f := by
  induction vs with
  | nil => intro w o h; exact h
  | cons v vs ih => intro w o h; exact ih _ _ (h.setOther (a := ⟨g, o, none⟩) hne v)

/-- What lies in a row at o: the cells vs. -/
def Lies (w : World) (g o : Nat) (vs : List Value) : Prop := ∀ c, c < vs.length → w.cell? ⟨g, o + c, none⟩ = some (vs.getD c undef)

theorem Lies.below {B : Nat} {w w' : World} {g o : Nat} {vs : List Value} (h : Lies w g o vs) (hw : Below B w w') (hb : g < B) : Lies w' g o vs := fun c hc => (hw.cell hb).trans (h c hc)

/-- A ROUND: the k-th element (of width m cells) has been laid; then a new block. -/
theorem put_step {g t n m k : Nat} {wr : World} {f : Nat → Value} (V : Nat → List Value) (hm : ∀ j, (V j).length = m) (hown : wr.rowIs g t (n * m) f) (hlt : k < n) (hlies : ∀ j, j < k → Lies wr g (j * m) (V j)) (o : Obj) :
    Has ((putAll wr g (k * m) (V k)).alloc o) g t (n * m) ∧ ∀ j, j < k + 1 → Lies ((putAll wr g (k * m) (V k)).alloc o) g (j * m) (V j) := by
  have hkm : (k + 1) * m ≤ n * m := Nat.mul_le_mul_right m hlt
  have R := (putAll_row (V k) wr (k * m) f hown).alloc o
  refine ⟨⟨_, R⟩, fun j hj c hc => ?_⟩
  rw [hm] at hc
  have hjm : (j + 1) * m ≤ (k + 1) * m := Nat.mul_le_mul_right m hj
  rw [Nat.add_one_mul] at hkm
  rw [Nat.add_one_mul, Nat.add_one_mul] at hjm
  rw [R.cell (i := j * m + c) (by omega), hm]
  by_cases e : j = k
  · subst e
    rw [if_pos ⟨by omega, by omega⟩, show j * m + c - j * m = c from by omega]
  · have : (j + 1) * m ≤ k * m := Nat.mul_le_mul_right m (by omega)
    rw [Nat.add_one_mul] at this
    rw [if_neg (by omega)]
    have h1 := hlies j (by omega) c (by rw [hm]; exact hc)
    rw [hown.cell (i := j * m + c) (by omega)] at h1
    exact h1

theorem putAll_cell {g g' o' : Nat} (hne : g' ≠ g) (vs : List Value) : ∀ (w : World) (o : Nat), (putAll w g o vs).cell? ⟨g', o', none⟩ = w.cell? ⟨g', o', none⟩ := by
  induction vs with
  | nil => intro w o; rfl
  | cons v vs ih => intro w o; rw [putAll, ih]; exact World.cell?_setCell_other _ _ _ _ (by intro h; exact hne (congrArg Addr.block h).symm)

theorem Lies.put {w : World} {g g' o o' : Nat} {us : List Value} (h : Lies w g' o' us) (hne : g' ≠ g) (vs : List Value) : Lies (putAll w g o vs) g' o' us := fun c hc => (putAll_cell hne vs w o).trans (h c hc)

theorem has_alloc (w : World) (c : Array Value) (t n : Nat) (h : c.size = n) : Has (w.alloc (.cells c t)) w.heap.size t n := by
  subst h
  exact ⟨fun i => (c[i]?).getD undef, World.rowIs_alloc w c t _ fun i hi => by simp [hi]⟩

theorem Has.alloc {w : World} {g t n : Nat} (h : Has w g t n) (o : Obj) : Has (w.alloc o) g t n := let ⟨f, hf⟩ := h; ⟨f, hf.alloc o⟩
theorem Has.put {w : World} {g g' t n o : Nat} (h : Has w g t n) (hne : g ≠ g') (vs : List Value) : Has (putAll w g' o vs) g t n := let ⟨f, hf⟩ := h; ⟨f, putAll_other hne vs _ _ hf⟩
theorem Has.below {B : Nat} {w w' : World} {g t n : Nat} (h : Has w g t n) (hw : Below B w w') (hg : g < B) : Has w' g t n := let ⟨f, hf⟩ := h; ⟨f, hf.of_block (hw.block g hg)⟩
theorem Has.lt {w : World} {g t n : Nat} (h : Has w g t n) : g < w.heap.size := let ⟨_, hf⟩ := h; hf.lt
theorem Lies.alloc {w : World} {g o : Nat} {vs : List Value} (h : Lies w g o vs) (hg : g < w.heap.size) (ob : Obj) : Lies (w.alloc ob) g o vs := fun c hc => (((Below.refl w.heap.size w).alloc (Nat.le_refl _) ob).cell hg).trans (h c hc)

theorem lies_alloc (w : World) (t : Nat) (vs : List Value) : Lies (w.alloc (.cells vs.toArray t)) w.heap.size 0 vs := by
  intro c hc
  have := World.rowIs_alloc w vs.toArray t (fun i => vs.getD i undef) (fun i hi => by simp at hi; simp [hi])
  have := this.cell (i := c) (by simpa using hc)
  simpa using this

end Go.Proofs.Qxb6612837a
