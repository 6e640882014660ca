import Derived.Test.Qxb6613277aSpell
namespace Go.Proofs.Qxb6613277a
open Go.RowKit
set_option linter.unusedVariables false

/-- What a call of splitFields leaves, by cells. -/
def SplitC (L : List (List UInt8)) (w : World) (e : Ending) (w' : World) : Prop :=
  ∃ A, e = .returned (.slice (some ⟨A, 0, none⟩) L.length L.length) ∧ A < w'.heap.size ∧
    (∀ j (h : j < L.length), w'.cell? ⟨A, j, none⟩ = some (.string ⟨L[j].toArray⟩)) ∧ Below w.heap.size w w'

theorem splitC (s : ByteArray) (w : World) (hs : s.size ≤ 1048576) : Calls Try.prog 6 #[.string s] w (SplitC (fieldsL s.data.toList) w) := by
  refine (split6 s w hs).mono ?_
  rintro e w' ⟨A, he, hA, hown, hb⟩
  refine ⟨A, he, (hown.lt A rfl).2, fun j h => ?_, hb⟩
  have := hown.cellAt j (by omega)
  rw [this]
  simp [h]

/-- The like, the count a variable. -/
def SplitN (s : ByteArray) (w : World) (e : Ending) (w' : World) : Prop :=
  ∃ A n, e = .returned (.slice (some ⟨A, 0, none⟩) n n) ∧ Hid (n = (fieldsL s.data.toList).length ∧ A < w'.heap.size ∧
    (∀ j (h : j < (fieldsL s.data.toList).length), w'.cell? ⟨A, j, none⟩ = some (.string ⟨(fieldsL s.data.toList)[j].toArray⟩)) ∧ Below w.heap.size w w')

theorem splitN (s : ByteArray) (w : World) (hs : s.size ≤ 1048576) : Calls Try.prog 6 #[.string s] w (SplitN s w) := by
  refine (splitC s w hs).mono ?_
  rintro e w' ⟨A, he, h1, h2, h3⟩
  exact ⟨A, _, he, rfl, h1, h2, h3⟩

theorem fields_len (s : ByteArray) : (fieldsL s.data.toList).length ≤ s.size := by
  have h1 := le_end (s := s) rfl (fieldsL s.data.toList).length (Nat.le_refl _)
  rw [endOf_all] at h1
  have h2 := (nrm_len (s := s) _ rfl).2
  omega

/-- What the tail of the law reads: three slices of strings, the first the other two in a row. -/
def Three (L : List (List UInt8)) (n na nb A1 A2 A3 : Nat) (w w5 : World) : Prop :=
  n = L.length ∧ n = na + nb ∧
    (∀ x, x < na → ∃ g, w5.cell? ⟨A1, x, none⟩ = some (.string g) ∧ w5.cell? ⟨A2, x, none⟩ = some (.string g)) ∧
    (∀ x, x < nb → ∃ g, w5.cell? ⟨A1, na + x, none⟩ = some (.string g) ∧ w5.cell? ⟨A3, x, none⟩ = some (.string g)) ∧
    (∀ j (h : j < L.length), w5.cell? ⟨A1, j, none⟩ = some (.string ⟨L[j].toArray⟩)) ∧ A1 < w5.heap.size ∧ Below w.heap.size w w5

theorem three {L La Lb : List (List UInt8)} {A1 A2 A3 : Nat} {w w3 w4 w5 : World} (hab : L = La ++ Lb)
    (hA1 : A1 < w3.heap.size) (hc1 : ∀ j (h : j < L.length), w3.cell? ⟨A1, j, none⟩ = some (.string ⟨L[j].toArray⟩)) (hb1 : Below w.heap.size w w3)
    (hA2 : A2 < w4.heap.size) (hc2 : ∀ j (h : j < La.length), w4.cell? ⟨A2, j, none⟩ = some (.string ⟨La[j].toArray⟩)) (hb2 : Below w3.heap.size w3 w4)
    (hc3 : ∀ j (h : j < Lb.length), w5.cell? ⟨A3, j, none⟩ = some (.string ⟨Lb[j].toArray⟩)) (hb3 : Below w4.heap.size w4 w5) :
    Three L L.length La.length Lb.length A1 A2 A3 w w5 := by
  have hb25 : Below w3.heap.size w3 w5 := hb2.trans (hb3.mono hb2.size)
  have d1 : ∀ j (h : j < L.length), w5.cell? ⟨A1, j, none⟩ = some (.string ⟨L[j].toArray⟩) := fun j h => (hb25.cell (by exact hA1)).trans (hc1 j h)
  have d2 : ∀ j (h : j < La.length), w5.cell? ⟨A2, j, none⟩ = some (.string ⟨La[j].toArray⟩) := fun j h => (hb3.cell (by exact hA2)).trans (hc2 j h)
  refine ⟨rfl, by rw [hab, List.length_append], fun x hx => ⟨_, ?_, d2 x hx⟩, fun x hx => ⟨_, ?_, hc3 x hx⟩, d1, Nat.lt_of_lt_of_le hA1 hb25.size, hb1.trans (hb25.mono hb1.size)⟩
  · subst hab
    rw [d1 x (by rw [List.length_append]; omega)]
    simp [List.getElem_append_left hx]
  · subst hab
    rw [d1 (La.length + x) (by rw [List.length_append]; omega)]
    simp

theorem cut_of (s : ByteArray) (p : Nat) (hp : p ≤ s.size) (h : p = 0 ∨ p = s.size ∨ (∃ q, ∃ hq : q < s.size, p = q + 1 ∧ blank s[q] = true) ∨ (∃ hq : p < s.size, blank s[p] = true)) :
    fieldsL s.data.toList = fieldsL (s.extract 0 p).data.toList ++ fieldsL (s.extract p s.size).data.toList := by
  rw [extract_eq, extract_eq]
  have e1 : ext s.data.toList (0, p) = s.data.toList.take p := by simp [ext]
  have e2 : ext s.data.toList (p, s.size) = s.data.toList.drop p := by unfold ext; simp only; rw [List.take_of_length_le (by simp)]
  rw [e1, e2]
  show _ = fieldsL (s.data.toList.take p) ++ fieldsL (s.data.toList.drop p)
  rw [← fields_cut, List.take_append_drop]
  rcases h with rfl | rfl | ⟨q, hq, rfl, hb⟩ | ⟨hq, hb⟩
  · left; simp
  · right; left; simp
  · right; right; left
    exact ⟨_, s[q], take_succ s q hq, hb⟩
  · right; right; right
    refine ⟨s[p], s.data.toList.drop (p + 1), ?_, hb⟩
    rw [elem_eq, List.drop_eq_getElem_cons]

theorem three' {s a b : ByteArray} {A1 A2 A3 n na nb : Nat} {w w3 w4 w5 : World} (hab : fieldsL s.data.toList = fieldsL a.data.toList ++ fieldsL b.data.toList)
    (h1 : n = (fieldsL s.data.toList).length ∧ A1 < w3.heap.size ∧ (∀ j (h : j < (fieldsL s.data.toList).length), w3.cell? ⟨A1, j, none⟩ = some (.string ⟨(fieldsL s.data.toList)[j].toArray⟩)) ∧ Below w.heap.size w w3)
    (h2 : na = (fieldsL a.data.toList).length ∧ A2 < w4.heap.size ∧ (∀ j (h : j < (fieldsL a.data.toList).length), w4.cell? ⟨A2, j, none⟩ = some (.string ⟨(fieldsL a.data.toList)[j].toArray⟩)) ∧ Below w3.heap.size w3 w4)
    (h3 : nb = (fieldsL b.data.toList).length ∧ A3 < w5.heap.size ∧ (∀ j (h : j < (fieldsL b.data.toList).length), w5.cell? ⟨A3, j, none⟩ = some (.string ⟨(fieldsL b.data.toList)[j].toArray⟩)) ∧ Below w4.heap.size w4 w5) :
    Three (fieldsL s.data.toList) n na nb A1 A2 A3 w w5 := by
  obtain ⟨rfl, hA1, hc1, hb1⟩ := h1
  obtain ⟨rfl, hA2, hc2, hb2⟩ := h2
  obtain ⟨rfl, hA3, hc3, hb3⟩ := h3
  exact three hab hA1 hc1 hb1 hA2 hc2 hb2 hc3 hb3

set_option maxRecDepth 100000 in
set_option maxHeartbeats 4000000 in
theorem law3 (s : ByteArray) (i : Int) (w : World) (b0 : -9223372036854775808 ≤ i) (b1 : i ≤ 9223372036854775807) :
    Calls Try.prog 3 #[.string s, .int .i64 i] w (SpellPost w) := by
  have h4 := bytes4 s i w
  by_cases hs' : ¬ s.size ≤ 1048576
  · rw [decide_eq_false hs'] at h4
    go_enter Try.func3, Try.ntmps3
    go_wp2_with fail
    refine h4.mono ?_
    rintro e w1 ⟨rfl, rfl⟩
    go_wp2_with fail
    go_ret
    exact ⟨rfl, Below.refl _ _⟩
  have hs : s.size ≤ 1048576 := by omega
  clear hs'
  rw [decide_eq_true hs] at h4
  by_cases hi0 : i < 0
  · go_enter Try.func3, Try.ntmps3
    go_wp2_with fail
    refine h4.mono ?_
    rintro e w1 ⟨rfl, rfl⟩
    go_wp2_with fail
    go_ret
    exact ⟨rfl, Below.refl _ _⟩
  by_cases hi1 : (s.size : Int) < i
  · go_enter Try.func3, Try.ntmps3
    go_wp2_with fail
    refine h4.mono ?_
    rintro e w1 ⟨rfl, rfl⟩
    go_wp2_with fail
    go_ret
    exact ⟨rfl, Below.refl _ _⟩
  obtain ⟨p, rfl⟩ : ∃ p : Nat, i = p := ⟨i.toNat, by omega⟩
  have hp : p ≤ s.size := by omega
  clear hi0 hi1 b0 b1
  by_cases hin : 0 < p ∧ p < s.size
  · obtain ⟨hi0, hi1⟩ := hin
    obtain ⟨q, rfl⟩ : ∃ q, p = q + 1 := ⟨p - 1, by omega⟩
    have hq : q < s.size := by omega
    cases hb1 : blank s[q]
    · cases hb2 : blank s[q + 1]
      · go_enter Try.func3, Try.ntmps3
        go_wp2_with fail
        refine h4.mono ?_
        rintro e w1 ⟨rfl, rfl⟩
        go_wp2_with fail
        refine (blank5f _ _ hb1).mono ?_
        rintro e w2 ⟨rfl, rfl⟩
        go_wp2_with fail
        refine (blank5f _ _ hb2).mono ?_
        rintro e w3 ⟨rfl, rfl⟩
        go_wp2_with fail
        go_ret
        exact ⟨rfl, Below.refl _ _⟩
      · have hab : Hid _ := cut_of s (q + 1) hp (.inr (.inr (.inr ⟨hi1, hb2⟩)))
        go_enter Try.func3, Try.ntmps3
        go_wp2_with fail
        refine h4.mono ?_
        rintro e w1 ⟨rfl, rfl⟩
        go_wp2_with fail
        refine (blank5f _ _ hb1).mono ?_
        rintro e w2 ⟨rfl, rfl⟩
        go_wp2_with fail
        refine (blank5t _ _ hb2).mono ?_
        rintro e w2' ⟨rfl, rfl⟩
        go_wp2_with fail
        refine (splitN s _ hs).mono ?_
        rintro e w3 ⟨A1, n, rfl, H1⟩
        go_wp2_with fail
        refine (splitN (s.extract 0 (q + 1)) _ (by rw [ByteArray.size_extract]; omega)).mono ?_
        rintro e w4 ⟨A2, na, rfl, H2⟩
        go_wp2_with fail
        refine (splitN (s.extract (q + 1) s.size) _ (by rw [ByteArray.size_extract]; omega)).mono ?_
        rintro e w5 ⟨A3, nb, rfl, H3⟩
        have hT : Hid _ := three' hab.out H1.out H2.out H3.out
        have hn1 : n ≤ 1048576 := by have := fields_len s; have := hT.out.1; omega
        have hn2 : n ≤ na + nb := by have := hT.out.2.1; omega
        have hn3 : na + nb ≤ n := by have := hT.out.2.1; omega
        clear H1 H2 H3 hab h4
        go_wp2_with fail
        go_loopw [8] (fun i wr => ∃ x q : Nat, x ≤ na ∧ i = .int .i64 x ∧ wr = w5.drewN q) (fun i _ => na - (intOf i).toNat)
        case atStart => exact ⟨0, 0, Nat.zero_le _, rfl, rfl⟩
        case round =>
          obtain ⟨x, y, hx, rfl, rfl⟩ := hrel
          by_cases hlt : x < na
          · obtain ⟨g, c1, c2⟩ := hT.out.2.2.1 x hlt
            have j1 : (0 : Int) ≤ (x : Int) := by omega
            have j2 : (x : Int) < (na : Int) := by omega
            have j3 : (x : Int) < (n : Int) := by omega
            go_wp2_with fail
            go_quiet (fail)
            go_wp2_with fail
            go_roundw
            case rel => exact ⟨x + 1, _, by omega, by go_num, rfl⟩
            case measure => simp [intOf]; omega
          · go_wp2_with fail
            go_loopw [9] (fun i wr => ∃ z q : Nat, z ≤ nb ∧ i = .int .i64 z ∧ wr = w5.drewN q) (fun i _ => nb - (intOf i).toNat)
            case atStart => exact ⟨0, y, Nat.zero_le _, rfl, rfl⟩
            case round =>
              obtain ⟨z, y2, hz, rfl, rfl⟩ := hrel
              by_cases hlt2 : z < nb
              · obtain ⟨g, c1, c2⟩ := hT.out.2.2.2.1 z hlt2
                have j1 : (0 : Int) ≤ (z : Int) := by omega
                have j2 : (z : Int) < (nb : Int) := by omega
                have j3 : (na : Int) + (z : Int) < (n : Int) := by omega
                have j4 : (0 : Int) ≤ (na : Int) + (z : Int) := by omega
                go_wp2_with fail
                go_quiet (fail)
                go_wp2_with fail
                go_roundw
                case rel => exact ⟨z + 1, _, by omega, by go_num, rfl⟩
                case measure => simp [intOf]; omega
              · go_wp2_with fail
                refine (spell7 A1 n s _ (w5.drewN y2) hs rfl hT.out.1 hT.out.2.2.2.2.2.1 hT.out.2.2.2.2.1).mono ?_
                rintro e w6 ⟨rfl, hb6⟩
                go_wp2_with fail
                go_ret
                exact ⟨rfl, hT.out.2.2.2.2.2.2.trans (Below.trans (below_drewN _ _ y2) (Below.mono hb6 hT.out.2.2.2.2.2.2.size))⟩
    · have hab : Hid _ := cut_of s (q + 1) hp (.inr (.inr (.inl ⟨q, hq, rfl, hb1⟩)))
      go_enter Try.func3, Try.ntmps3
      go_wp2_with fail
      refine h4.mono ?_
      rintro e w1 ⟨rfl, rfl⟩
      go_wp2_with fail
      refine (blank5t _ _ hb1).mono ?_
      rintro e w2 ⟨rfl, rfl⟩
      go_wp2_with fail
      refine (splitN s _ hs).mono ?_
      rintro e w3 ⟨A1, n, rfl, H1⟩
      go_wp2_with fail
      refine (splitN (s.extract 0 (q + 1)) _ (by rw [ByteArray.size_extract]; omega)).mono ?_
      rintro e w4 ⟨A2, na, rfl, H2⟩
      go_wp2_with fail
      refine (splitN (s.extract (q + 1) s.size) _ (by rw [ByteArray.size_extract]; omega)).mono ?_
      rintro e w5 ⟨A3, nb, rfl, H3⟩
      have hT : Hid _ := three' hab.out H1.out H2.out H3.out
      have hn1 : n ≤ 1048576 := by have := fields_len s; have := hT.out.1; omega
      have hn2 : n ≤ na + nb := by have := hT.out.2.1; omega
      have hn3 : na + nb ≤ n := by have := hT.out.2.1; omega
      clear H1 H2 H3 hab h4
      go_wp2_with fail
      go_loopw [8] (fun i wr => ∃ x q : Nat, x ≤ na ∧ i = .int .i64 x ∧ wr = w5.drewN q) (fun i _ => na - (intOf i).toNat)
      case atStart => exact ⟨0, 0, Nat.zero_le _, rfl, rfl⟩
      case round =>
        obtain ⟨x, y, hx, rfl, rfl⟩ := hrel
        by_cases hlt : x < na
        · obtain ⟨g, c1, c2⟩ := hT.out.2.2.1 x hlt
          have j1 : (0 : Int) ≤ (x : Int) := by omega
          have j2 : (x : Int) < (na : Int) := by omega
          have j3 : (x : Int) < (n : Int) := by omega
          go_wp2_with fail
          go_quiet (fail)
          go_wp2_with fail
          go_roundw
          case rel => exact ⟨x + 1, _, by omega, by go_num, rfl⟩
          case measure => simp [intOf]; omega
        · go_wp2_with fail
          go_loopw [9] (fun i wr => ∃ z q : Nat, z ≤ nb ∧ i = .int .i64 z ∧ wr = w5.drewN q) (fun i _ => nb - (intOf i).toNat)
          case atStart => exact ⟨0, y, Nat.zero_le _, rfl, rfl⟩
          case round =>
            obtain ⟨z, y2, hz, rfl, rfl⟩ := hrel
            by_cases hlt2 : z < nb
            · obtain ⟨g, c1, c2⟩ := hT.out.2.2.2.1 z hlt2
              have j1 : (0 : Int) ≤ (z : Int) := by omega
              have j2 : (z : Int) < (nb : Int) := by omega
              have j3 : (na : Int) + (z : Int) < (n : Int) := by omega
              have j4 : (0 : Int) ≤ (na : Int) + (z : Int) := by omega
              go_wp2_with fail
              go_quiet (fail)
              go_wp2_with fail
              go_roundw
              case rel => exact ⟨z + 1, _, by omega, by go_num, rfl⟩
              case measure => simp [intOf]; omega
            · go_wp2_with fail
              refine (spell7 A1 n s _ (w5.drewN y2) hs rfl hT.out.1 hT.out.2.2.2.2.2.1 hT.out.2.2.2.2.1).mono ?_
              rintro e w6 ⟨rfl, hb6⟩
              go_wp2_with fail
              go_ret
              exact ⟨rfl, hT.out.2.2.2.2.2.2.trans (Below.trans (below_drewN _ _ y2) (Below.mono hb6 hT.out.2.2.2.2.2.2.size))⟩
  · by_cases hp0 : p = 0
    · subst hp0
      have hab : Hid (fieldsL s.data.toList = fieldsL ByteArray.empty.data.toList ++ fieldsL s.data.toList) := rfl
      go_enter Try.func3, Try.ntmps3
      go_wp2_with fail
      refine h4.mono ?_
      rintro e w1 ⟨rfl, rfl⟩
      go_wp2_with fail
      refine (splitN s _ hs).mono ?_
      rintro e w3 ⟨A1, n, rfl, H1⟩
      go_wp2_with fail
      refine (splitN ByteArray.empty _ (Nat.zero_le _)).mono ?_
      rintro e w4 ⟨A2, na, rfl, H2⟩
      go_wp2_with fail
      refine (splitN s _ hs).mono ?_
      rintro e w5 ⟨A3, nb, rfl, H3⟩
      have hT : Hid _ := three' hab.out H1.out H2.out H3.out
      have hn1 : n ≤ 1048576 := by have := fields_len s; have := hT.out.1; omega
      have hn2 : n ≤ na + nb := by have := hT.out.2.1; omega
      have hn3 : na + nb ≤ n := by have := hT.out.2.1; omega
      clear H1 H2 H3 hab h4
      go_wp2_with fail
      go_loopw [8] (fun i wr => ∃ x q : Nat, x ≤ na ∧ i = .int .i64 x ∧ wr = w5.drewN q) (fun i _ => na - (intOf i).toNat)
      case atStart => exact ⟨0, 0, Nat.zero_le _, rfl, rfl⟩
      case round =>
        obtain ⟨x, y, hx, rfl, rfl⟩ := hrel
        by_cases hlt : x < na
        · obtain ⟨g, c1, c2⟩ := hT.out.2.2.1 x hlt
          have j1 : (0 : Int) ≤ (x : Int) := by omega
          have j2 : (x : Int) < (na : Int) := by omega
          have j3 : (x : Int) < (n : Int) := by omega
          go_wp2_with fail
          go_quiet (fail)
          go_wp2_with fail
          go_roundw
          case rel => exact ⟨x + 1, _, by omega, by go_num, rfl⟩
          case measure => simp [intOf]; omega
        · go_wp2_with fail
          go_loopw [9] (fun i wr => ∃ z q : Nat, z ≤ nb ∧ i = .int .i64 z ∧ wr = w5.drewN q) (fun i _ => nb - (intOf i).toNat)
          case atStart => exact ⟨0, y, Nat.zero_le _, rfl, rfl⟩
          case round =>
            obtain ⟨z, y2, hz, rfl, rfl⟩ := hrel
            by_cases hlt2 : z < nb
            · obtain ⟨g, c1, c2⟩ := hT.out.2.2.2.1 z hlt2
              have j1 : (0 : Int) ≤ (z : Int) := by omega
              have j2 : (z : Int) < (nb : Int) := by omega
              have j3 : (na : Int) + (z : Int) < (n : Int) := by omega
              have j4 : (0 : Int) ≤ (na : Int) + (z : Int) := by omega
              go_wp2_with fail
              go_quiet (fail)
              go_wp2_with fail
              go_roundw
              case rel => exact ⟨z + 1, _, by omega, by go_num, rfl⟩
              case measure => simp [intOf]; omega
            · go_wp2_with fail
              refine (spell7 A1 n s _ (w5.drewN y2) hs rfl hT.out.1 hT.out.2.2.2.2.2.1 hT.out.2.2.2.2.1).mono ?_
              rintro e w6 ⟨rfl, hb6⟩
              go_wp2_with fail
              go_ret
              exact ⟨rfl, hT.out.2.2.2.2.2.2.trans (Below.trans (below_drewN _ _ y2) (Below.mono hb6 hT.out.2.2.2.2.2.2.size))⟩
    · obtain rfl : p = s.size := by omega
      have hp1 : 0 < s.size := by omega
      have hab : Hid (fieldsL s.data.toList = fieldsL s.data.toList ++ fieldsL ByteArray.empty.data.toList) := (List.append_nil _).symm
      go_enter Try.func3, Try.ntmps3
      go_wp2_with fail
      refine h4.mono ?_
      rintro e w1 ⟨rfl, rfl⟩
      go_wp2_with fail
      refine (splitN s _ hs).mono ?_
      rintro e w3 ⟨A1, n, rfl, H1⟩
      go_wp2_with fail
      refine (splitN s _ hs).mono ?_
      rintro e w4 ⟨A2, na, rfl, H2⟩
      go_wp2_with fail
      refine (splitN ByteArray.empty _ (Nat.zero_le _)).mono ?_
      rintro e w5 ⟨A3, nb, rfl, H3⟩
      have hT : Hid _ := three' hab.out H1.out H2.out H3.out
      have hn1 : n ≤ 1048576 := by have := fields_len s; have := hT.out.1; omega
      have hn2 : n ≤ na + nb := by have := hT.out.2.1; omega
      have hn3 : na + nb ≤ n := by have := hT.out.2.1; omega
      clear H1 H2 H3 hab h4
      go_wp2_with fail
      go_loopw [8] (fun i wr => ∃ x q : Nat, x ≤ na ∧ i = .int .i64 x ∧ wr = w5.drewN q) (fun i _ => na - (intOf i).toNat)
      case atStart => exact ⟨0, 0, Nat.zero_le _, rfl, rfl⟩
      case round =>
        obtain ⟨x, y, hx, rfl, rfl⟩ := hrel
        by_cases hlt : x < na
        · obtain ⟨g, c1, c2⟩ := hT.out.2.2.1 x hlt
          have j1 : (0 : Int) ≤ (x : Int) := by omega
          have j2 : (x : Int) < (na : Int) := by omega
          have j3 : (x : Int) < (n : Int) := by omega
          go_wp2_with fail
          go_quiet (fail)
          go_wp2_with fail
          go_roundw
          case rel => exact ⟨x + 1, _, by omega, by go_num, rfl⟩
          case measure => simp [intOf]; omega
        · go_wp2_with fail
          go_loopw [9] (fun i wr => ∃ z q : Nat, z ≤ nb ∧ i = .int .i64 z ∧ wr = w5.drewN q) (fun i _ => nb - (intOf i).toNat)
          case atStart => exact ⟨0, y, Nat.zero_le _, rfl, rfl⟩
          case round =>
            obtain ⟨z, y2, hz, rfl, rfl⟩ := hrel
            by_cases hlt2 : z < nb
            · obtain ⟨g, c1, c2⟩ := hT.out.2.2.2.1 z hlt2
              have j1 : (0 : Int) ≤ (z : Int) := by omega
              have j2 : (z : Int) < (nb : Int) := by omega
              have j3 : (na : Int) + (z : Int) < (n : Int) := by omega
              have j4 : (0 : Int) ≤ (na : Int) + (z : Int) := by omega
              go_wp2_with fail
              go_quiet (fail)
              go_wp2_with fail
              go_roundw
              case rel => exact ⟨z + 1, _, by omega, by go_num, rfl⟩
              case measure => simp [intOf]; omega
            · go_wp2_with fail
              refine (spell7 A1 n s _ (w5.drewN y2) hs rfl hT.out.1 hT.out.2.2.2.2.2.1 hT.out.2.2.2.2.1).mono ?_
              rintro e w6 ⟨rfl, hb6⟩
              go_wp2_with fail
              go_ret
              exact ⟨rfl, hT.out.2.2.2.2.2.2.trans (Below.trans (below_drewN _ _ y2) (Below.mono hb6 hT.out.2.2.2.2.2.2.size))⟩
end Go.Proofs.Qxb6613277a
