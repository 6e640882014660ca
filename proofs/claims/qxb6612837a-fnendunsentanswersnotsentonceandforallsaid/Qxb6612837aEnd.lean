import Derived.Test.Qxb6612837aRows
import Derived.Test.Qxb6612837aLocks
import Derived.Conc.MuLone
import Derived.WalkKit
import Derived.ProofKit
import Derived.WalkSpells
import Derived.WalkLawsBesides
import Derived.Defers
namespace Go.Proofs.Qxb6612837a
open Go.RowKit Go.MuLone

/-- A deferred begin in block b: its lock free, and the fields that the law looks at. -/
def Def (w : World) (b : Nat) (xid : ByteArray) (sent begun ended : Bool) : Prop :=
  w.cell? ⟨b, 1, none⟩ = some (.string xid) ∧ w.cell? ⟨b, 4, none⟩ = some (.int .i32 0) ∧ w.cell? ⟨b, 6, none⟩ = some (.bool sent) ∧ w.cell? ⟨b, 7, none⟩ = some (.bool begun) ∧ w.cell? ⟨b, 8, none⟩ = some (.bool ended) ∧
  w.frozen? ⟨b, 4, none⟩ = false ∧ w.frozen? ⟨b, 8, none⟩ = false

def EndPost (b : Nat) (xid : ByteArray) (sent begun : Bool) (w : World) (e : Ending) (w' : World) : Prop :=
  e = .returned (.bool (!sent)) ∧ Below b w w' ∧ Def w' b xid sent begun (!sent)

theorem def_after {w : World} {b : Nat} {xid : ByteArray} {sent begun ended : Bool} (h : Def w b xid sent begun ended) (v : Bool) :
    Def (((w.setCell ⟨b, 4, none⟩ (.int .i32 1)).setCell ⟨b, 8, none⟩ (.bool v)).setCell ⟨b, 4, none⟩ (.int .i32 0)) b xid sent begun v := by
  obtain ⟨h1, h4, h6, h7, h8, z4, z8⟩ := h
  have n1 : ∀ (u x y : Value) (k : Nat) (w : World), k ≠ 4 → (w.setCell ⟨b, 4, none⟩ u).cell? ⟨b, k, none⟩ = w.cell? ⟨b, k, none⟩ := fun u _ _ k w hk => World.cell?_setCell_other _ _ _ _ (by intro h; exact hk (congrArg Addr.off h).symm)
  have n2 : ∀ (u : Value) (k : Nat) (w : World), k ≠ 8 → (w.setCell ⟨b, 8, none⟩ u).cell? ⟨b, k, none⟩ = w.cell? ⟨b, k, none⟩ := fun u k w hk => World.cell?_setCell_other _ _ _ _ (by intro h; exact hk (congrArg Addr.off h).symm)
  refine ⟨?_, ?_, ?_, ?_, ?_, by simp [z4], by simp [z8]⟩
  · rw [n1 _ undef undef _ _ (by decide), n2 _ _ _ (by decide), n1 _ undef undef _ _ (by decide)]; exact h1
  · refine World.cell?_setCell_same _ _ _ (u := .int .i32 1) ?_
    rw [n2 _ _ _ (by decide)]
    exact World.cell?_setCell_same _ _ _ h4
  · rw [n1 _ undef undef _ _ (by decide), n2 _ _ _ (by decide), n1 _ undef undef _ _ (by decide)]; exact h6
  · rw [n1 _ undef undef _ _ (by decide), n2 _ _ _ (by decide), n1 _ undef undef _ _ (by decide)]; exact h7
  · rw [n1 _ undef undef _ _ (by decide)]
    refine World.cell?_setCell_same _ _ _ (u := .bool ended) ?_
    rw [n1 _ undef undef _ _ (by decide)]; exact h8

set_option maxRecDepth 100000 in
set_option maxHeartbeats 1000000 in
theorem end31 (b : Nat) (xid : ByteArray) (sent begun ended : Bool) (w : World) (h : Def w b xid sent begun ended) :
    Calls Try.prog 31 #[.pointer (some ⟨b, 0, none⟩)] w (EndPost b xid sent begun w) := by
  have h' := def_after h (!sent)
  obtain ⟨h1, h4, h6, h7, h8, z4, z8⟩ := h
  go_enter_defers Try.func31, Try.ntmps31
  go_wp2_with (go_at_call 36; refine (lock_free Try.muLib ⟨b, 4, none⟩ _ h4 z4).mono ?_; rintro e w' ⟨rfl, rfl⟩)
  refine leaves_cons (f := 37) (args := #[.pointer (some ⟨b, 4, none⟩)]) (by simp) (by simp [go_sem]) ?_
  refine (unlock_deferred Try.muLib ⟨b, 4, none⟩ .returning _ ?_ ?_).mono ?_
  · exact (World.cell?_setCell_other _ ⟨b, 8, none⟩ ⟨b, 4, none⟩ _ (by simp)).trans (World.cell?_setCell_same w ⟨b, 4, none⟩ (.int .i32 1) h4)
  · simp [z4]
  rintro e u' w'' ⟨rfl, rfl, rfl⟩
  exact ⟨_, results_tmp rfl _ _ _, rfl, (((Below.refl b w).setCell (p := ⟨b, 4, none⟩) (Nat.le_refl _) _).setCell (p := ⟨b, 8, none⟩) (Nat.le_refl _) _).setCell (p := ⟨b, 4, none⟩) (Nat.le_refl _) _, h'⟩

theorem end18 (b : Nat) (xid : ByteArray) (sent begun ended : Bool) (w : World) (h : Def w b xid sent begun ended) :
    Calls Try.prog 18 #[.pointer (some ⟨b, 0, none⟩)] w (EndPost b xid sent begun w) := by
  go_enter Try.func18, Try.ntmps18
  go_wp2_with fail
  refine (end31 b xid sent begun ended w h).mono ?_
  rintro e w1 ⟨rfl, hb, hd⟩
  go_wp2_with fail
  go_ret
  exact ⟨rfl, hb, hd⟩

theorem new17 (xid : ByteArray) (sent begun ended : Bool) (w : World) :
    Calls Try.prog 17 #[.string xid, .bool sent, .bool begun, .bool ended] w fun e w' => e = .returned (.pointer (some ⟨w.heap.size, 0, none⟩)) ∧
      w' = w.alloc (.cells #[.pointer none, .string xid, .string ByteArray.empty, .int .i64 0, .int .i32 0, .int .u32 0, .bool sent, .bool begun, .bool ended] 78) := by
  go_enter Try.func17, Try.ntmps17
  go_wp2_with fail
  go_ret
  exact ⟨rfl, rfl⟩

theorem def_new (xid : ByteArray) (sent begun ended : Bool) (w : World) :
    Def (w.alloc (.cells #[.pointer none, .string xid, .string ByteArray.empty, .int .i64 0, .int .i32 0, .int .u32 0, .bool sent, .bool begun, .bool ended] 78)) w.heap.size xid sent begun ended := by
  refine ⟨?_, ?_, ?_, ?_, ?_, ?_, ?_⟩ <;> simp

def QBool (w : World) (e : Ending) (w' : World) : Prop := ∃ b : Bool, e = .returned (.bool b) ∧ w' = w

set_option maxRecDepth 100000 in
theorem bytes16 (xid : ByteArray) (sent begun ended : Bool) (w : World) :
    Calls Try.prog 16 #[.string xid, .bool sent, .bool begun, .bool ended] w (QBool w) := by
  go_enter Try.func16, Try.ntmps16
  go_wp2
  all_goals (go_ret; exact ⟨_, rfl, rfl⟩)

set_option maxRecDepth 100000 in
set_option maxHeartbeats 1000000 in
theorem law5 (xid : ByteArray) (sent begun ended : Bool) (w : World) :
    Calls Try.prog 5 #[.string xid, .bool sent, .bool begun, .bool ended] w fun e w' => e = .returned (.bool true) ∧ Below w.heap.size w w' := by
  go_enter Try.func5, Try.ntmps5
  go_wp2_with fail
  refine (bytes16 xid sent begun ended w).mono ?_
  rintro e w0 ⟨b, rfl, rfl⟩
  cases b
  · go_wp2_with fail
    go_ret
    exact ⟨rfl, Below.refl _ _⟩
  by_cases hx : 1048576 < xid.size
  · go_wp2_with fail
    go_ret
    exact ⟨rfl, Below.refl _ _⟩
  rcases sent with _ | _ <;> rcases begun with _ | _ <;> rcases ended with _ | _
  · go_wp2_with fail
    refine (new17 xid false false false w0).mono ?_
    rintro e w1 ⟨rfl, hw1⟩
    have hd1 := def_new xid false false false w0
    have hb1 := (Below.refl w0.heap.size w0).alloc (Nat.le_refl _) (.cells #[.pointer none, .string xid, .string ByteArray.empty, .int .i64 0, .int .i32 0, .int .u32 0, .bool false, .bool false, .bool false] 78)
    rw [← hw1] at hd1 hb1
    clear hw1
    go_wp2_with fail
    refine (end18 w0.heap.size xid false false false w1 hd1).mono ?_
    rintro e w2 ⟨rfl, hb2, hd2⟩
    go_wp2_with fail
    refine (end18 w0.heap.size xid false false _ w2 hd2).mono ?_
    rintro e w3 ⟨rfl, hb3, hd3⟩
    have hb := (hb1.trans hb2).trans hb3
    obtain ⟨c1, c4, c6, c7, c8, -, -⟩ := hd3
    clear hd1 hd2 hb1 hb2 hb3 c4
    go_wp2
    go_ret
    exact ⟨rfl, hb⟩
  · go_wp2_with fail
    refine (new17 xid false false true w0).mono ?_
    rintro e w1 ⟨rfl, hw1⟩
    have hd1 := def_new xid false false true w0
    have hb1 := (Below.refl w0.heap.size w0).alloc (Nat.le_refl _) (.cells #[.pointer none, .string xid, .string ByteArray.empty, .int .i64 0, .int .i32 0, .int .u32 0, .bool false, .bool false, .bool true] 78)
    rw [← hw1] at hd1 hb1
    clear hw1
    go_wp2_with fail
    refine (end18 w0.heap.size xid false false true w1 hd1).mono ?_
    rintro e w2 ⟨rfl, hb2, hd2⟩
    go_wp2_with fail
    refine (end18 w0.heap.size xid false false _ w2 hd2).mono ?_
    rintro e w3 ⟨rfl, hb3, hd3⟩
    have hb := (hb1.trans hb2).trans hb3
    obtain ⟨c1, c4, c6, c7, c8, -, -⟩ := hd3
    clear hd1 hd2 hb1 hb2 hb3 c4
    go_wp2
    go_ret
    exact ⟨rfl, hb⟩
  · go_wp2_with fail
    go_ret
    exact ⟨rfl, Below.refl _ _⟩
  · go_wp2_with fail
    go_ret
    exact ⟨rfl, Below.refl _ _⟩
  · go_wp2_with fail
    refine (new17 xid true false false w0).mono ?_
    rintro e w1 ⟨rfl, hw1⟩
    have hd1 := def_new xid true false false w0
    have hb1 := (Below.refl w0.heap.size w0).alloc (Nat.le_refl _) (.cells #[.pointer none, .string xid, .string ByteArray.empty, .int .i64 0, .int .i32 0, .int .u32 0, .bool true, .bool false, .bool false] 78)
    rw [← hw1] at hd1 hb1
    clear hw1
    go_wp2_with fail
    refine (end18 w0.heap.size xid true false false w1 hd1).mono ?_
    rintro e w2 ⟨rfl, hb2, hd2⟩
    go_wp2_with fail
    refine (end18 w0.heap.size xid true false _ w2 hd2).mono ?_
    rintro e w3 ⟨rfl, hb3, hd3⟩
    have hb := (hb1.trans hb2).trans hb3
    obtain ⟨c1, c4, c6, c7, c8, -, -⟩ := hd3
    clear hd1 hd2 hb1 hb2 hb3 c4
    go_wp2
    go_ret
    exact ⟨rfl, hb⟩
  · go_wp2_with fail
    go_ret
    exact ⟨rfl, Below.refl _ _⟩
  · go_wp2_with fail
    refine (new17 xid true true false w0).mono ?_
    rintro e w1 ⟨rfl, hw1⟩
    have hd1 := def_new xid true true false w0
    have hb1 := (Below.refl w0.heap.size w0).alloc (Nat.le_refl _) (.cells #[.pointer none, .string xid, .string ByteArray.empty, .int .i64 0, .int .i32 0, .int .u32 0, .bool true, .bool true, .bool false] 78)
    rw [← hw1] at hd1 hb1
    clear hw1
    go_wp2_with fail
    refine (end18 w0.heap.size xid true true false w1 hd1).mono ?_
    rintro e w2 ⟨rfl, hb2, hd2⟩
    go_wp2_with fail
    refine (end18 w0.heap.size xid true true _ w2 hd2).mono ?_
    rintro e w3 ⟨rfl, hb3, hd3⟩
    have hb := (hb1.trans hb2).trans hb3
    obtain ⟨c1, c4, c6, c7, c8, -, -⟩ := hd3
    clear hd1 hd2 hb1 hb2 hb3 c4
    go_wp2
    go_ret
    exact ⟨rfl, hb⟩
  · go_wp2_with fail
    go_ret
    exact ⟨rfl, Below.refl _ _⟩
end Go.Proofs.Qxb6612837a
