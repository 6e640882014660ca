import Derived.Test.Qxb6612837aView
namespace Go.Proofs.Qxb6612837a
open Go.RowKit

theorem Try.info42 : (Try.prog.info? 42).map (fun i => (i.zero, i.size, i.bytes)) = some (some (.agg #[.int .i64 0, .string ByteArray.empty, .string ByteArray.empty, .string ByteArray.empty, .int .i64 0]), 5, 64) := by kernel_rfl

/-- What make lays for n branches. -/
def mk42 (n : Nat) : Array Value := madeCells #[.int .i64 0, .string ByteArray.empty, .string ByteArray.empty, .string ByteArray.empty, .int .i64 0] (n * 5)

theorem make27 (n : Nat) (hn : n ≤ 70000) (w : World) :
    (Instr.makeSlice 27 (.int .i64 (n : Int)) (.int .i64 (n : Int))).run Try.prog w = .ok (.slice (some ⟨w.heap.size, 0, none⟩) n n) (w.alloc (.cells (mk42 n) 42)) := by
  obtain ⟨i, hi, hz, hs, hb⟩ := info_parts Try.info42
  have := run_make (P := Try.prog) w 27 42 i _ Try.underlying27 hi hz .i64 .i64 n n (by omega) (Int.le_refl _) (by rw [hb]; omega) (by omega)
  rw [this, hs]
  rfl

/-- The five cells of a transaction's branch. -/
def five (x : Br) : List Value := [.int .i64 x.id, .string x.mode, .string x.res, .string x.lock, .int .i64 x.code]

def txcells (xid name : ByteArray) (code : Int) (g len : Nat) : List Value := [.string xid, .string name, .int .i64 code, .slice (some ⟨g, 0, none⟩) len len]

/-- What the loop of transactionOf keeps. -/
def TxInv (xid name : ByteArray) (code : Int) (len : Nat) (F : Nat → Br) (w wr : World) (k : Nat) : Prop :=
  Below w.heap.size w wr ∧ Has wr (w.heap.size + 1) 29 4 ∧ w.heap.size + 1 + 1 < wr.heap.size ∧ Lies wr (w.heap.size + 1 + 1) 0 (txcells xid name code (w.heap.size + 1 + 1 + 1) len) ∧
  Has wr (w.heap.size + 1 + 1 + 1) 42 (len * 5) ∧ ∀ j, j < k → Lies wr (w.heap.size + 1 + 1 + 1) (j * 5) (five (F j))

theorem tx_start (xid name : ByteArray) (code : Int) (len : Nat) (F : Nat → Br) (w : World) (o : Obj) (c : Array Value) (hc : c.size = 4) :
    TxInv xid name code len F w ((((w.alloc o).alloc (.cells c 29)).alloc (.cells #[.string xid, .string name, .int .i64 code, .slice (some ⟨w.heap.size + 1 + 1 + 1, 0, none⟩) len len] 29)).alloc (.cells (mk42 len) 42)) 0 := by
  refine ⟨((((Below.refl _ _).alloc (Nat.le_refl _) _).alloc (by simp) _).alloc (by simp <;> omega) _).alloc (by simp <;> omega) _, ?_, by simp <;> omega, ?_, ?_, fun j hj => absurd hj (Nat.not_lt_zero j)⟩
  · have := has_alloc (w.alloc o) c 29 4 hc
    rw [show (w.alloc o).heap.size = w.heap.size + 1 by simp] at this
    exact (this.alloc _).alloc _
  · have := lies_alloc ((w.alloc o).alloc (.cells c 29)) 29 (txcells xid name code (w.heap.size + 1 + 1 + 1) len)
    rw [show ((w.alloc o).alloc (.cells c 29)).heap.size = w.heap.size + 1 + 1 by simp] at this
    exact this.alloc (by simp) _
  · have := has_alloc (((w.alloc o).alloc (.cells c 29)).alloc (.cells #[.string xid, .string name, .int .i64 code, .slice (some ⟨w.heap.size + 1 + 1 + 1, 0, none⟩) len len] 29)) (mk42 len) 42 (len * 5) (by simp [mk42, size_madeCells])
    simpa using this

theorem tx_step {xid name : ByteArray} {code : Int} {len : Nat} {F : Nat → Br} {w wr : World} {k : Nat} (h : TxInv xid name code len F w wr k) (hlt : k < len) (o : Obj) :
    TxInv xid name code len F w ((putAll wr (w.heap.size + 1 + 1 + 1) (k * 5) (five (F k))).alloc o) (k + 1) := by
  obtain ⟨h1, h2, h3, h4, ⟨f, h5⟩, h6⟩ := h
  have hz := h1.size
  refine ⟨(putAll_below (by omega) _ _ _ h1).alloc (by rw [putAll_size]; omega) o, (h2.put (by omega) _).alloc o, by simp [putAll_size]; omega, (h4.put (by omega) _).alloc (by rw [putAll_size]; omega) o, ?_⟩
  exact put_step (fun j => five (F j)) (fun _ => rfl) h5 hlt h6 o

def TxPost (xid name : ByteArray) (code : Int) (a : Option Addr) (len : Nat) (F : Nat → Br) (w : World) (e : Ending) (w' : World) : Prop :=
  Below w.heap.size w w' ∧ ((a = none ∧ e = .returned (.agg #[.string xid, .string name, .int .i64 code, .slice none 0 0])) ∨
    (a ≠ none ∧ ∃ g, e = .returned (.agg #[.string xid, .string name, .int .i64 code, .slice (some ⟨g, 0, none⟩) len len]) ∧ w.heap.size ≤ g ∧ g < w'.heap.size ∧ ∀ i, i < len → Lies w' g (i * 5) (five (F i))))

set_option maxRecDepth 100000 in
set_option maxHeartbeats 1000000 in
theorem tx30 (xid name status : ByteArray) (code : Int) (a : Option Addr) (len cap : Nat) (F : Nat → Br) (w : World) (hl : len ≤ 70000) (hrow : Row w w.heap.size a len F) (hnil : a = none → len = 0 ∧ cap = 0) :
    Calls Try.prog 30 #[.agg #[.string xid, .string name, .string status, .int .i64 code, .slice a len cap]] w (TxPost xid name code a len F w) := by
  have hmk := make27 len hl
  have hne := fun (w : World) (a : Option Addr) (n c : Nat) => run_neq_slice_nil_any (P := Try.prog) w 35 66 a n c 0 0 Try.underlying35
  cases a with
  | none =>
    obtain ⟨rfl, rfl⟩ := hnil rfl
    clear hnil hrow hmk
    go_enter Try.func30, Try.ntmps30
    go_wp2
    go_loop [28] (fun i => i = .int .i64 0) (fun _ => 0)
    case atStart => rfl
    case round =>
      obtain rfl := hrel
      go_wp2
      exact bodyPost_ret (v := .agg #[.string xid, .string name, .int .i64 code, .slice none 0 0]) (by simp [results, Try.results30, go_sem]) rfl ⟨(((Below.refl _ _).alloc (Nat.le_refl _) _).alloc (by simp) _).alloc (by simp; omega) _, .inl ⟨rfl, rfl⟩⟩
  | some a =>
    clear hnil
    go_enter Try.func30, Try.ntmps30
    go_wp2
    go_loopw [28] (fun i wr => ∃ k : Nat, k ≤ len ∧ i = .int .i64 k ∧ TxInv xid name code len F w wr k) (fun i _ => len - (intOf i).toNat)
    case atStart => exact ⟨0, Nat.zero_le _, rfl, tx_start xid name code len F w _ _ rfl⟩
    case round =>
      obtain ⟨k, hk, rfl, hinv⟩ := hrel
      by_cases hlt : k < len
      · obtain ⟨b, off, hab, hbB, hcells⟩ := hrow (by omega)
        obtain rfl : a = ⟨b, off, none⟩ := by simpa using hab
        have hi2 := hinv
        obtain ⟨hbr, hres, ht, hlt', ⟨f, hf⟩, hlies⟩ := hi2
        obtain ⟨c0, c1, c2, c3, c4, c5⟩ := (hcells k hlt).below hbr hbB
        have t3 := hlt' 3 (by simp [txcells])
        simp [txcells] at t3
        have hg := hf.lt
        have e0 := hf.cell (i := k * 5) (by omega)
        have e1 := hf.cell (i := k * 5 + 1) (by omega)
        have e2 := hf.cell (i := k * 5 + 2) (by omega)
        have e3 := hf.cell (i := k * 5 + 3) (by omega)
        have e4 := hf.cell (i := k * 5 + 4) (by omega)
        have z0 := hf.frozen (k * 5)
        have z1 := hf.frozen (k * 5 + 1)
        have z2 := hf.frozen (k * 5 + 2)
        have z3 := hf.frozen (k * 5 + 3)
        have z4 := hf.frozen (k * 5 + 4)
        have R := tx_step hinv hlt (Obj.cells #[.int .i64 (F k).id, .string (F k).mode, .string (F k).res, .string (F k).lock, .string (F k).stat, .int .i64 (F k).code] 66)
        clear hcells hab hbr hres hlt' hlies hf hinv
        go_wp2
        go_roundw
        case rel => exact ⟨k + 1, by omega, by go_num, R⟩
        case measure => simp [intOf]; omega
      · have : k = len := by omega
        subst this
        obtain ⟨hbr, ⟨f0, hf0⟩, ht, hlt', hown, hlies⟩ := hinv
        have hz := hbr.size
        have t0 := hlt' 0 (by simp [txcells])
        have t1 := hlt' 1 (by simp [txcells])
        have t2 := hlt' 2 (by simp [txcells])
        have t3 := hlt' 3 (by simp [txcells])
        simp [txcells] at t0 t1 t2 t3
        have e0 := hf0.cell (i := 0) (by omega)
        have e1 := hf0.cell (i := 1) (by omega)
        have e2 := hf0.cell (i := 2) (by omega)
        have e3 := hf0.cell (i := 3) (by omega)
        have z0 := hf0.frozen 0
        have z1 := hf0.frozen 1
        have z2 := hf0.frozen 2
        have z3 := hf0.frozen 3
        clear hlt'
        go_wp2
        have hg := hown.lt
        refine bodyPost_ret (v := .agg #[.string xid, .string name, .int .i64 code, .slice (some ⟨w.heap.size + 1 + 1 + 1, 0, none⟩) k k]) (by simp [results, Try.results30, go_sem, e0, e1, e2, e3]) rfl ⟨?_, .inr ⟨by simp, w.heap.size + 1 + 1 + 1, rfl, by omega, ?_, fun i hi => ?_⟩⟩
        · exact putAll_below (by omega) (txcells xid name code (w.heap.size + 1 + 1 + 1) k) wr 0 hbr
        · simp [World.setCell]; exact hg
        · exact (hlies i hi).put (g := w.heap.size + 1) (o := 0) (by omega) (txcells xid name code (w.heap.size + 1 + 1 + 1) k)

set_option maxRecDepth 100000 in
set_option maxHeartbeats 1000000 in
theorem tx10 (xid name status : ByteArray) (code : Int) (a : Option Addr) (len cap : Nat) (F : Nat → Br) (w : World) (hl : len ≤ 70000) (hrow : Row w w.heap.size a len F) (hnil : a = none → len = 0 ∧ cap = 0) :
    Calls Try.prog 10 #[.agg #[.string xid, .string name, .string status, .int .i64 code, .slice a len cap]] w (TxPost xid name code a len F w) := by
  go_enter Try.func10, Try.ntmps10
  go_wp2_with fail
  refine (tx30 xid name status code a len cap F _ hl ?_ hnil).mono ?_
  · exact hrow.below (((Below.refl _ _).alloc (Nat.le_refl _) _).alloc (by simp) _) (by simp <;> omega)
  intro e w1 hp
  have hb0 := ((Below.refl w.heap.size w).alloc (Nat.le_refl _) (Obj.cells #[.string xid, .string name, .string status, .int .i64 code, .slice a len cap] 37)).alloc (by simp) (Obj.cells #[.string ByteArray.empty, .string ByteArray.empty, .int .i64 0, .slice none 0 0] 29)
  have hres := has_alloc (w.alloc (Obj.cells #[.string xid, .string name, .string status, .int .i64 code, .slice a len cap] 37)) #[.string ByteArray.empty, .string ByteArray.empty, .int .i64 0, .slice none 0 0] 29 4 rfl
  obtain ⟨f0, hf0⟩ := hres.below hp.1 (by simp)
  rw [show (w.alloc (Obj.cells #[.string xid, .string name, .string status, .int .i64 code, .slice a len cap] 37)).heap.size = w.heap.size + 1 by simp] at hf0
  have e0 := hf0.cell (i := 0) (by omega)
  have e1 := hf0.cell (i := 1) (by omega)
  have e2 := hf0.cell (i := 2) (by omega)
  have e3 := hf0.cell (i := 3) (by omega)
  have z0 := hf0.frozen 0
  have z1 := hf0.frozen 1
  have z2 := hf0.frozen 2
  have z3 := hf0.frozen 3
  have hsz := hp.1.size
  simp at hsz
  clear hres hf0
  rcases hp with ⟨hb1, ⟨ha, rfl⟩ | ⟨ha, g, rfl, hg, hg', hl'⟩⟩
  · have hB := hb0.trans (hb1.mono (by simp <;> omega))
    clear hb1 hb0
    go_wp2_with fail
    exact bodyPost_ret (v := .agg #[.string xid, .string name, .int .i64 code, .slice none 0 0]) (by simp [results, Try.results10, go_sem, e0, e1, e2, e3]) rfl ⟨putAll_below (by omega) [.string xid, .string name, .int .i64 code, .slice none 0 0] w1 0 hB, .inl ⟨ha, rfl⟩⟩
  · have hB := hb0.trans (hb1.mono (by simp <;> omega))
    simp at hg
    clear hb1 hb0
    go_wp2_with fail
    refine bodyPost_ret (v := .agg #[.string xid, .string name, .int .i64 code, .slice (some ⟨g, 0, none⟩) len len]) (by simp [results, Try.results10, go_sem, e0, e1, e2, e3]) rfl ⟨?_, .inr ⟨ha, g, rfl, by omega, ?_, fun i hi => ?_⟩⟩
    · exact putAll_below (by omega) [.string xid, .string name, .int .i64 code, .slice (some ⟨g, 0, none⟩) len len] w1 0 hB
    · simp [World.setCell]; exact hg'
    · exact (hl' i hi).put (g := w.heap.size + 1) (o := 0) (by omega) [.string xid, .string name, .int .i64 code, .slice (some ⟨g, 0, none⟩) len len]
end Go.Proofs.Qxb6612837a
