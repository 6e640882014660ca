import Derived.Test.Qxb6612837aBase
import Derived.Test.Qxb6612837aRowsPut
namespace Go.Proofs.Qxb6612837a
open Go.RowKit

theorem Try.info66 : (Try.prog.info? 66).map (fun i => (i.zero, i.size, i.bytes)) = some (some (.agg #[.int .i64 0, .string ByteArray.empty, .string ByteArray.empty, .string ByteArray.empty, .string ByteArray.empty, .int .i64 0]), 6, 80) := by kernel_rfl

/-- What make lays for n branch views. -/
def mk66 (n : Nat) : Array Value := madeCells #[.int .i64 0, .string ByteArray.empty, .string ByteArray.empty, .string ByteArray.empty, .string ByteArray.empty, .int .i64 0] (n * 6)

theorem make35 (n : Nat) (hn : n ≤ 70000) (w : World) :
    (Instr.makeSlice 35 (.int .i64 (n : Int)) (.int .i64 (n : Int))).run Try.prog w = .ok (.slice (some ⟨w.heap.size, 0, none⟩) n n) (w.alloc (.cells (mk66 n) 66)) := by
  obtain ⟨i, hi, hz, hs, hb⟩ := info_parts Try.info66
  have := run_make (P := Try.prog) w 35 66 i _ Try.underlying35 hi hz .i64 .i64 n n (by omega) (Int.le_refl _) (by rw [hb]; omega) (by omega)
  rw [this, hs]
  rfl

theorem has_mk (w : World) (o : Obj) (n : Nat) : Has ((w.alloc o).alloc (.cells (mk66 n) 66)) (w.heap.size + 1) 66 (n * 6) := by
  have := has_alloc (w.alloc o) (mk66 n) 66 (n * 6) (by simp [mk66, size_madeCells])
  simpa using this

/-- The six cells of a branch, as a list. -/
def six (x : Br) : List Value := [.int .i64 x.id, .string x.mode, .string x.res, .string x.lock, .string x.stat, .int .i64 x.code]

theorem Lies.six {w : World} {g o : Nat} {x : Br} (h : Lies w g o (six x)) : Six w g o x :=
  ⟨h 0 (by simp [Qxb6612837a.six]), h 1 (by simp [Qxb6612837a.six]), h 2 (by simp [Qxb6612837a.six]), h 3 (by simp [Qxb6612837a.six]), h 4 (by simp [Qxb6612837a.six]), h 5 (by simp [Qxb6612837a.six])⟩

theorem view_step {w wr : World} {len k : Nat} {F : Nat → Br} (hbr : Below w.heap.size w wr) (hres : Has wr w.heap.size 37 5) (hown : Has wr (w.heap.size + 1) 66 (len * 6)) (hlt : k < len) (hsix : ∀ j, j < k → Lies wr (w.heap.size + 1) (j * 6) (six (F j))) (o : Obj) :
    Below w.heap.size w ((putAll wr (w.heap.size + 1) (k * 6) (six (F k))).alloc o) ∧ Has ((putAll wr (w.heap.size + 1) (k * 6) (six (F k))).alloc o) w.heap.size 37 5 ∧
    Has ((putAll wr (w.heap.size + 1) (k * 6) (six (F k))).alloc o) (w.heap.size + 1) 66 (len * 6) ∧ ∀ j, j < k + 1 → Lies ((putAll wr (w.heap.size + 1) (k * 6) (six (F k))).alloc o) (w.heap.size + 1) (j * 6) (six (F j)) := by
  obtain ⟨f, hown⟩ := hown
  obtain ⟨f0, hres⟩ := hres
  have hz := hbr.size
  refine ⟨(putAll_below (by omega) _ _ _ hbr).alloc (by rw [putAll_size]; omega) o, ⟨f0, (putAll_other (by omega) _ _ _ hres).alloc o⟩, ?_⟩
  exact put_step (fun j => six (F j)) (fun _ => rfl) hown hlt hsix o

def ViewPost (xid name status : ByteArray) (code : Int) (a : Option Addr) (len : Nat) (F : Nat → Br) (w : World) (e : Ending) (w' : World) : Prop :=
  Below w.heap.size w w' ∧ ((a = none ∧ e = .returned (.agg #[.string xid, .string name, .string status, .int .i64 code, .slice none 0 0])) ∨
    (a ≠ none ∧ ∃ g, e = .returned (.agg #[.string xid, .string name, .string status, .int .i64 code, .slice (some ⟨g, 0, none⟩) len len]) ∧ w.heap.size ≤ g ∧ g < w'.heap.size ∧ ∀ i, i < len → Lies w' g (i * 6) (six (F i))))

set_option maxRecDepth 100000 in
set_option maxHeartbeats 1000000 in
theorem view11 (xid name status : ByteArray) (code : Int) (a : Option Addr) (len cap : Nat) (F : Nat → Br) (w : World) (hl : len ≤ 70000) (hrow : Row w w.heap.size a len F) (hnil : a = none → len = 0 ∧ cap = 0) :
    Calls Try.prog 11 #[.string xid, .string name, .string status, .int .i64 code, .slice a len cap] w (ViewPost xid name status code a len F w) := by
  have hmk := make35 len hl
  have hne := fun (w : World) (a : Option Addr) (n c : Nat) => run_neq_slice_nil_any (P := Try.prog) w 22 45 a n c 0 0 Try.underlying22
  cases a with
  | none =>
    obtain ⟨rfl, rfl⟩ := hnil rfl
    clear hnil hrow hmk
    go_enter Try.func11, Try.ntmps11
    go_wp2
    exact bodyPost_ret (v := .agg #[.string xid, .string name, .string status, .int .i64 code, .slice none 0 0]) (by simp [results, Try.results11, go_sem]) rfl ⟨(Below.refl _ _).alloc (Nat.le_refl _) _, .inl ⟨rfl, rfl⟩⟩
  | some a =>
    clear hnil
    go_enter Try.func11, Try.ntmps11
    go_wp2
    go_loopw [12] (fun i wr => ∃ k : Nat, k ≤ len ∧ i = .int .i64 k ∧ Below w.heap.size w wr ∧ Has wr w.heap.size 37 5 ∧ Has wr (w.heap.size + 1) 66 (len * 6) ∧ ∀ j, j < k → Lies wr (w.heap.size + 1) (j * 6) (six (F j))) (fun i _ => len - (intOf i).toNat)
    case atStart =>
      refine ⟨0, Nat.zero_le _, rfl, ((Below.refl _ _).alloc (Nat.le_refl _) _).alloc (by simp) _, ?_, ?_, fun j hj => absurd hj (Nat.not_lt_zero j)⟩
      · exact (has_alloc _ _ _ _ rfl).alloc _
      · exact has_mk _ _ _
    case round =>
      obtain ⟨k, hk, rfl, hbr, hres, hown, hsix⟩ := hrel
      by_cases hlt : k < len
      · obtain ⟨b, off, hab, hbB, hcells⟩ := hrow (by omega)
        obtain rfl : a = ⟨b, off, none⟩ := by simpa using hab
        obtain ⟨c0, c1, c2, c3, c4, c5⟩ := (hcells k hlt).below hbr hbB
        obtain ⟨f, hf⟩ := hown
        have hg := hf.lt
        have e0 := hf.cell (i := k * 6) (by omega)
        have e1 := hf.cell (i := k * 6 + 1) (by omega)
        have e2 := hf.cell (i := k * 6 + 2) (by omega)
        have e3 := hf.cell (i := k * 6 + 3) (by omega)
        have e4 := hf.cell (i := k * 6 + 4) (by omega)
        have e5 := hf.cell (i := k * 6 + 5) (by omega)
        have z0 := hf.frozen (k * 6)
        have z1 := hf.frozen (k * 6 + 1)
        have z2 := hf.frozen (k * 6 + 2)
        have z3 := hf.frozen (k * 6 + 3)
        have z4 := hf.frozen (k * 6 + 4)
        have z5 := hf.frozen (k * 6 + 5)
        have R := view_step hbr hres ⟨f, hf⟩ hlt hsix (Obj.cells #[.int .i64 (F k).id, .string (F k).mode, .string (F k).res, .string (F k).lock, .string (F k).stat, .int .i64 (F k).code] 45)
        have HR := (show Hid _ from R)
        clear R hcells hab hbr hres hsix hf
        go_wp2
        go_roundw
        case rel => exact ⟨k + 1, by omega, by go_num, HR.out⟩
        case measure => simp [intOf]; omega
      · have : k = len := by omega
        subst this
        obtain ⟨f0, hf0⟩ := hres
        have hz := hbr.size
        have e0 := hf0.cell (i := 0) (by omega)
        have e1 := hf0.cell (i := 1) (by omega)
        have e2 := hf0.cell (i := 2) (by omega)
        have e3 := hf0.cell (i := 3) (by omega)
        have e4 := hf0.cell (i := 4) (by omega)
        have z0 := hf0.frozen 0
        have z1 := hf0.frozen 1
        have z2 := hf0.frozen 2
        have z3 := hf0.frozen 3
        have z4 := hf0.frozen 4
        go_wp2
        have hg := hown.lt
        refine bodyPost_ret (v := .agg #[.string xid, .string name, .string status, .int .i64 code, .slice (some ⟨w.heap.size + 1, 0, none⟩) k k]) (by simp [results, Try.results11, go_sem, e0, e1, e2, e3, e4]) rfl ⟨?_, .inr ⟨by simp, w.heap.size + 1, rfl, by omega, ?_, fun i hi => ?_⟩⟩
        · exact putAll_below (Nat.le_refl _) [.string xid, .string name, .string status, .int .i64 code, .slice (some ⟨w.heap.size + 1, 0, none⟩) k k] wr 0 hbr
        · simp [World.setCell]; exact hg
        · exact (hsix i hi).put (g := w.heap.size) (o := 0) (by omega) [.string xid, .string name, .string status, .int .i64 code, .slice (some ⟨w.heap.size + 1, 0, none⟩) k k]
end Go.Proofs.Qxb6612837a
