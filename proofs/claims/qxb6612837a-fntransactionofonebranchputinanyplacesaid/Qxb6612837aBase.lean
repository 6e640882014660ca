import Derived.Test.Qxb6612837aRows
import Derived.WalkKit
import Derived.ProofKit
import Derived.ShutString
import Derived.WalkSpells
import Derived.WalkLawsBesides
namespace Go.Proofs.Qxb6612837a
open Go.RowKit

/-- One branch, as the law's own struct holds it. -/
structure Br where
  id : Int
  mode : ByteArray
  res : ByteArray
  lock : ByteArray
  stat : ByteArray
  code : Int

/-- The six cells of one branch lie from ⟨b, o⟩ on. -/
def Six (w : World) (b o : Nat) (x : Br) : Prop :=
  w.cell? ⟨b, o, none⟩ = some (.int .i64 x.id) ∧ w.cell? ⟨b, o + 1, none⟩ = some (.string x.mode) ∧ w.cell? ⟨b, o + 2, none⟩ = some (.string x.res) ∧
  w.cell? ⟨b, o + 3, none⟩ = some (.string x.lock) ∧ w.cell? ⟨b, o + 4, none⟩ = some (.string x.stat) ∧ w.cell? ⟨b, o + 5, none⟩ = some (.int .i64 x.code)

theorem Six.below {B : Nat} {w w' : World} {b o : Nat} {x : Br} (h : Six w b o x) (hw : Below B w w') (hb : b < B) : Six w' b o x := by
  obtain ⟨h0, h1, h2, h3, h4, h5⟩ := h
  exact ⟨(hw.cell hb).trans h0, (hw.cell hb).trans h1, (hw.cell hb).trans h2, (hw.cell hb).trans h3, (hw.cell hb).trans h4, (hw.cell hb).trans h5⟩

/-- A slice of branches: where there is an element, it leads to a row below block B. -/
def Row (w : World) (B : Nat) (a : Option Addr) (len : Nat) (F : Nat → Br) : Prop :=
  0 < len → ∃ b off, a = some ⟨b, off, none⟩ ∧ b < B ∧ ∀ i, i < len → Six w b (off + i * 6) (F i)

theorem Row.below {B B' : Nat} {w w' : World} {a : Option Addr} {len : Nat} {F : Nat → Br} (h : Row w B a len F) (hw : Below B w w') (hB : B ≤ B') : Row w' B' a len F := by
  intro hl
  obtain ⟨b, off, ha, hb, hc⟩ := h hl
  exact ⟨b, off, ha, by omega, fun i hi => (hc i hi).below hw hb⟩

theorem Row.take {B : Nat} {w : World} {a : Option Addr} {len k : Nat} {F : Nat → Br} (h : Row w B a len F) (hk : k ≤ len) : Row w B a k F := by
  intro hl
  obtain ⟨b, off, ha, hb, hc⟩ := h (by omega)
  exact ⟨b, off, ha, hb, fun i hi => hc i (by omega)⟩

/-- A bool comes back; nothing below block B has turned; the counter at the head of block g is still a number that may be written. -/
def CountPost (B g : Nat) (w : World) (e : Ending) (w' : World) : Prop :=
  ∃ (b : Bool) (y : Int), e = .returned (.bool b) ∧ Below B w w' ∧ w'.cell? ⟨g, 0, none⟩ = some (.int .i64 y) ∧ w'.frozen? ⟨g, 0, none⟩ = false

/-- zzOver: adds to the counter behind the pointer; nothing below block B turns. -/
theorem over15 (B g : Nat) (x k : Int) (w : World) (hB : B ≤ g) (hc : w.cell? ⟨g, 0, none⟩ = some (.int .i64 x)) (hz : w.frozen? ⟨g, 0, none⟩ = false) :
    Calls Try.prog 15 #[.pointer (some ⟨g, 0, none⟩), .int .i64 k] w (CountPost B g w) := by
  by_cases h : 1048576 < k
  · go_enter Try.func15, Try.ntmps15
    go_wp2
    go_ret
    exact ⟨true, x, rfl, Below.refl _ _, hc, hz⟩
  · go_enter Try.func15, Try.ntmps15
    go_wp2
    go_ret
    exact ⟨_, _, rfl, (Below.refl _ _).setCell hB _, World.cell?_setCell_same _ _ _ hc, by simp [hz]⟩
end Go.Proofs.Qxb6612837a
