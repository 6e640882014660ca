import Derived.Lib.FieldsP
namespace Go.Proofs.Qxb6613277a

/-! ### Fields, byte by byte -/

def blank (c : UInt8) : Bool := c == 32 || c == 9

def fstep (st : List (List UInt8) × List UInt8) (c : UInt8) : List (List UInt8) × List UInt8 :=
  if blank c = true then (if st.2 = [] then st else (st.1 ++ [st.2], [])) else (st.1, st.2 ++ [c])
def fclose (st : List (List UInt8) × List UInt8) : List (List UInt8) := if st.2 = [] then st.1 else st.1 ++ [st.2]
def frun (l : List UInt8) : List (List UInt8) × List UInt8 := l.foldl fstep ([], [])
def fieldsL (l : List UInt8) : List (List UInt8) := fclose (frun l)

theorem frun_snoc (l : List UInt8) (c : UInt8) : frun (l ++ [c]) = fstep (frun l) c := by simp [frun]

theorem fold_shift (b : List UInt8) : ∀ (D D0 : List (List UInt8)) (c : List UInt8), b.foldl fstep (D ++ D0, c) = (D ++ (b.foldl fstep (D0, c)).1, (b.foldl fstep (D0, c)).2) := by
  induction b with
  | nil => intro D D0 c; rfl
  | cons x b ih =>
    intro D D0 c
    simp only [List.foldl_cons]
    have : fstep (D ++ D0, c) x = (D ++ (fstep (D0, c) x).1, (fstep (D0, c) x).2) := by
      unfold fstep
      by_cases hx : blank x = true <;> by_cases hc : c = [] <;> simp [hx, hc]
    rw [this]
    exact ih D _ _

theorem fold_from (b : List UInt8) (D : List (List UInt8)) : fclose (b.foldl fstep (D, [])) = D ++ fieldsL b := by
  have := fold_shift b D [] []
  rw [List.append_nil] at this
  rw [this]
  unfold fieldsL fclose frun
  by_cases h : (b.foldl fstep ([], [])).2 = [] <;> simp [h]

theorem frun_append (a b : List UInt8) : frun (a ++ b) = b.foldl fstep (frun a) := by simp [frun]

/-- Cut at a blank, the fields part. -/
theorem fields_cut (a b : List UInt8) (h : a = [] ∨ b = [] ∨ (∃ a' c, a = a' ++ [c] ∧ blank c = true) ∨ (∃ c b', b = c :: b' ∧ blank c = true)) : fieldsL (a ++ b) = fieldsL a ++ fieldsL b := by
  by_cases hc : (frun a).2 = []
  · have e : frun a = ((frun a).1, []) := Prod.ext rfl hc
    rw [fieldsL, frun_append, e, fold_from]
    congr 1
    rw [fieldsL, fclose, if_pos hc]
  · rcases h with rfl | rfl | ⟨a', c, rfl, hb⟩ | ⟨c, b', rfl, hb⟩
    · exact absurd rfl hc
    · have e : fieldsL [] = [] := rfl
      rw [List.append_nil, e, List.append_nil]
    · exfalso
      apply hc
      rw [frun_snoc, fstep, if_pos hb]
      split
      · assumption
      · rfl
    · rw [fieldsL, frun_append, List.foldl_cons, fstep, if_pos hb, if_neg hc, fold_from]
      have : fieldsL (c :: b') = fieldsL b' := by
        simp [fieldsL, frun, fstep, hb]
      rw [this]
      congr 1
      rw [fieldsL, fclose, if_neg hc]

theorem fold_word (b : List UInt8) : ∀ (d : List (List UInt8)) (c : List UInt8), (∀ x ∈ b, blank x = false) → b.foldl fstep (d, c) = (d, c ++ b) := by
  induction b with
  | nil => intro d c _; simp
  | cons x b ih =>
    intro d c h
    have hx := h x (by simp)
    rw [List.foldl_cons, fstep, if_neg (by simp [hx])]
    rw [ih d (c ++ [x]) (fun y hy => h y (by simp [hy]))]
    simp

theorem snoc_ind {p : List UInt8 → Prop} (h0 : p []) (hs : ∀ l c, p l → p (l ++ [c])) (l : List UInt8) : p l := by
  have key : ∀ r : List UInt8, p r.reverse := by
    intro r
    induction r with
    | nil => exact h0
    | cons x r ih => rw [List.reverse_cons]; exact hs _ _ ih
  have := key l.reverse
  rwa [List.reverse_reverse] at this

/-! ### What the fields are: not empty, no blank in them -/
theorem frun_good (l : List UInt8) : (∀ f ∈ (frun l).1, f ≠ [] ∧ ∀ x ∈ f, blank x = false) ∧ ∀ x ∈ (frun l).2, blank x = false := by
  induction l using snoc_ind with
  | h0 => exact ⟨fun f hf => by simp [frun] at hf, fun x hx => by simp [frun] at hx⟩
  | hs l c ih =>
    obtain ⟨h1, h2⟩ := ih
    rw [frun_snoc]
    unfold fstep
    by_cases hb : blank c = true
    · rw [if_pos hb]
      by_cases hc : (frun l).2 = []
      · rw [if_pos hc]; exact ⟨h1, h2⟩
      · rw [if_neg hc]
        refine ⟨fun f hf => ?_, fun x hx => by simp at hx⟩
        rcases List.mem_append.1 hf with h | h
        · exact h1 f h
        · simp at h; subst h; exact ⟨hc, h2⟩
    · rw [if_neg hb]
      refine ⟨h1, fun x hx => ?_⟩
      rcases List.mem_append.1 hx with h | h
      · exact h2 x h
      · simp at h; subst h; simpa using hb

theorem fields_good (l : List UInt8) : ∀ f ∈ fieldsL l, f ≠ [] ∧ ∀ x ∈ f, blank x = false := by
  intro f hf
  obtain ⟨h1, h2⟩ := frun_good l
  unfold fieldsL fclose at hf
  by_cases hc : (frun l).2 = []
  · rw [if_pos hc] at hf; exact h1 f hf
  · rw [if_neg hc] at hf
    rcases List.mem_append.1 hf with h | h
    · exact h1 f h
    · simp at h; subst h; exact ⟨hc, h2⟩

/-! ### The normalised text -/
def joinB : List (List UInt8) → List UInt8
  | [] => []
  | [f] => f
  | f :: g :: r => f ++ 32 :: joinB (g :: r)

theorem joinB_snoc (D : List (List UInt8)) (f : List UInt8) : joinB (D ++ [f]) = if D = [] then f else joinB D ++ 32 :: f := by
  induction D with
  | nil => rfl
  | cons g D ih =>
    cases D with
    | nil => rfl
    | cons h D => simp [joinB] at ih ⊢; exact ih

theorem joinB_eq_nil (D : List (List UInt8)) (hD : ∀ f ∈ D, f ≠ []) : joinB D = [] ↔ D = [] := by
  cases D with
  | nil => simp [joinB]
  | cons f D =>
    have := hD f (by simp)
    cases D with
    | nil => simp [joinB, this]
    | cons g D => simp [joinB]

def nstep (st : List UInt8 × Bool) (c : UInt8) : List UInt8 × Bool :=
  if blank c = true then (st.1, st.2 || !st.1.isEmpty) else (st.1 ++ (if st.2 = true then [32] else []) ++ [c], false)
def nrun (l : List UInt8) : List UInt8 × Bool := l.foldl nstep ([], false)
theorem nrun_snoc (l : List UInt8) (c : UInt8) : nrun (l ++ [c]) = nstep (nrun l) c := by simp [nrun]

theorem nrun_eq (l : List UInt8) : (nrun l).1 = joinB (fieldsL l) ∧ (nrun l).2 = (decide ((frun l).2 = []) && decide ((frun l).1 ≠ [])) := by
  induction l using snoc_ind with
  | h0 => exact ⟨rfl, rfl⟩
  | hs l c ih =>
    obtain ⟨h1, h2⟩ := ih
    have hg := fields_good l
    have hgood := frun_good l
    have hne := joinB_eq_nil (fieldsL l) (fun f hf => (hg f hf).1)
    rw [nrun_snoc, frun_snoc]
    have hfl : fieldsL (l ++ [c]) = fclose (fstep (frun l) c) := by rw [fieldsL, frun_snoc]
    rw [hfl]
    unfold nstep fstep
    by_cases hb : blank c = true
    · rw [if_pos hb, if_pos hb]
      by_cases hc : (frun l).2 = []
      · rw [if_pos hc]
        refine ⟨h1, ?_⟩
        have hf : fieldsL l = (frun l).1 := by rw [fieldsL, fclose, if_pos hc]
        rw [hf] at h1 hne
        simp only [h2, h1, hc]
        by_cases hd : (frun l).1 = []
        · simp [hd, joinB]
        · have : joinB (frun l).1 ≠ [] := fun h => hd (hne.1 h)
          simp [hd]
      · rw [if_neg hc]
        refine ⟨?_, ?_⟩
        · show (nrun l).1 = joinB (fclose ((frun l).1 ++ [(frun l).2], []))
          rw [h1, fieldsL, fclose, if_neg hc, fclose, if_pos rfl]
        · have hf : fieldsL l = (frun l).1 ++ [(frun l).2] := by rw [fieldsL, fclose, if_neg hc]
          have : joinB (fieldsL l) ≠ [] := fun h => by have := hne.1 h; rw [hf] at this; simp at this
          simp [h1, this]
    · rw [if_neg hb, if_neg hb]
      refine ⟨?_, by simp⟩
      have hcl : fclose ((frun l).1, (frun l).2 ++ [c]) = (frun l).1 ++ [(frun l).2 ++ [c]] := by simp [fclose]
      rw [hcl, joinB_snoc]
      show (nrun l).1 ++ (if (nrun l).2 = true then [32] else []) ++ [c] = _
      rw [h1, h2]
      by_cases hc : (frun l).2 = []
      · have hf : fieldsL l = (frun l).1 := by rw [fieldsL, fclose, if_pos hc]
        rw [hf]
        by_cases hd : (frun l).1 = []
        · simp [hc, hd, joinB]
        · simp [hc, hd]
      · have hf : fieldsL l = (frun l).1 ++ [(frun l).2] := by rw [fieldsL, fclose, if_neg hc]
        rw [hf, joinB_snoc]
        by_cases hd : (frun l).1 = []
        · simp [hc, hd]
        · simp [hc, hd]
end Go.Proofs.Qxb6613277a
