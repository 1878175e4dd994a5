/-
  The plain mathematics of the second law of seat b6002590a; no Go here.
-/
import Derived.Test.Qxb6002590aPlain2
namespace Go.Proofs.Qxb6002590a.Plain

theorem cmpL_pre (p a b : List Int) : cmpL (p ++ a) (p ++ b) = cmpL a b := by
  induction p with
  | nil => rfl
  | cons x p ih => simp [cmpL, ih]
theorem preL_pre (p a b : List Int) : preL (p ++ a) (p ++ b) = preL a b := by
  induction p with
  | nil => rfl
  | cons x p ih => simp [preL, ih]
theorem cmpL_self_app (l t : List Int) : 0 ≤ cmpL (l ++ t) l := by
  have := cmpL_pre l t []
  rw [List.append_nil] at this
  rw [this]; exact cmpL_nil_right _
theorem preL_self_app (l t : List Int) : preL l (l ++ t) = true := by
  have := preL_pre l [] t
  rw [List.append_nil] at this
  rw [this]; rfl
theorem ffL_right (a b : List Int) (h : ffL (a ++ b) = true) : ffL b = true := by
  induction a with
  | nil => exact h
  | cons x a ih => simp only [List.cons_append, ffL, Bool.and_eq_true] at h; exact ih h.2

def properL (p k : List Int) : Bool := decide (p.length < k.length) && preL p k
def freeL (n : Bool) (v b : List Int) : Bool := n || (!properL b v && !properL v b)
def admitsL (ln hn le he : Bool) (v lo hi : List Int) : Bool :=
  (ln || !(decide (cmpL v lo < 0) || (cmpL v lo == 0 && le))) && (hn || !(decide (0 < cmpL v hi) || (cmpL v hi == 0 && he)))

/-- Neither is a proper prefix of the other: they are one, or they part at a byte. -/
theorem free_cases (v l : List Int) (h1 : properL l v = false) (h2 : properL v l = false) : v = l ∨ (cmpL v l ≠ 0 ∧ ∀ t, cmpL (v ++ t) l = cmpL v l ∧ preL l (v ++ t) = false) := by
  induction l generalizing v with
  | nil =>
    cases v with
    | nil => exact .inl rfl
    | cons y v => simp [properL, preL] at h1
  | cons x l ih =>
    cases v with
    | nil => simp [properL, preL] at h2
    | cons y v =>
      rcases Int.lt_trichotomy y x with h | h | h
      · right
        have hne : ¬ y = x := by omega
        refine ⟨by simp [cmpL, h], fun t => ⟨by simp [cmpL, h], by simp [preL, hne]⟩⟩
      · subst h
        have e1 : properL l v = false := by simpa [properL, preL] using h1
        have e2 : properL v l = false := by simpa [properL, preL] using h2
        rcases ih v e1 e2 with rfl | ⟨h3, h4⟩
        · exact .inl rfl
        · right
          refine ⟨by simpa [cmpL] using h3, fun t => ?_⟩
          have := h4 t
          refine ⟨by simpa [cmpL] using this.1, by simpa [preL] using this.2⟩
      · right
        have hne : ¬ y = x := by omega
        have hnl : ¬ y < x := by omega
        refine ⟨by simp [cmpL, h, hnl], fun t => ⟨by simp [cmpL, h, hnl], by simp [preL, hne]⟩⟩

theorem admits_low {ln hn le he : Bool} {v lo hi : List Int} (h : admitsL ln hn le he v lo hi = true) (hl : ln = false) : 0 ≤ cmpL v lo ∧ (le = true → cmpL v lo ≠ 0) := by
  subst hl
  simp only [admitsL, Bool.and_eq_true, Bool.false_or, Bool.not_eq_true', Bool.or_eq_false_iff, decide_eq_false_iff_not, Bool.and_eq_false_iff, beq_eq_false_iff_ne] at h
  obtain ⟨⟨h1, h2⟩, _⟩ := h
  refine ⟨by omega, fun e => ?_⟩
  rcases h2 with h2 | h2
  · exact h2
  · rw [e] at h2; simp at h2
theorem admits_high {ln hn le he : Bool} {v lo hi : List Int} (h : admitsL ln hn le he v lo hi = true) (hl : hn = false) : cmpL v hi ≤ 0 ∧ (he = true → cmpL v hi ≠ 0) := by
  subst hl
  simp only [admitsL, Bool.and_eq_true, Bool.false_or, Bool.not_eq_true', Bool.or_eq_false_iff, decide_eq_false_iff_not, Bool.and_eq_false_iff, beq_eq_false_iff_ne] at h
  obtain ⟨_, h1, h2⟩ := h
  refine ⟨by omega, fun e => ?_⟩
  rcases h2 with h2 | h2
  · exact h2
  · rw [e] at h2; simp at h2
theorem free_parts {n : Bool} {v b : List Int} (h : freeL n v b = true) (hn : n = false) : properL b v = false ∧ properL v b = false := by
  subst hn
  simpa [freeL] using h

theorem low_holds {ln le : Bool} {v lo t : List Int} (hln : ln = true → lo = []) (ha : ln = false → 0 ≤ cmpL v lo ∧ (le = true → cmpL v lo ≠ 0)) (hf : ln = false → properL lo v = false ∧ properL v lo = false) (pre : List Int) :
    (if (!ln && le) = true then decide (0 < cmpL (pre ++ (v ++ t)) (pre ++ lo)) && !preL (pre ++ lo) (pre ++ (v ++ t)) else decide (0 ≤ cmpL (pre ++ (v ++ t)) (pre ++ lo))) = true := by
  rw [cmpL_pre, preL_pre]
  cases ln with
  | true =>
    rw [hln rfl]
    simp [cmpL_nil_right]
  | false =>
    obtain ⟨h1, h2⟩ := ha rfl
    obtain ⟨h3, h4⟩ := hf rfl
    rcases free_cases v lo h3 h4 with rfl | ⟨h5, h6⟩
    · cases le with
      | true =>
        exfalso
        apply h2 rfl
        have := cmpL_pre v [] []
        simpa [cmpL] using this
      | false => simpa using cmpL_self_app v t
    · have := h6 t
      rw [this.1, this.2]
      cases le with
      | true => simp; omega
      | false => simpa using h1

theorem high_holds {hn he : Bool} {v hi t : List Int} (hln : hn = true → hi = []) (ha : hn = false → cmpL v hi ≤ 0 ∧ (he = true → cmpL v hi ≠ 0)) (hf : hn = false → properL hi v = false ∧ properL v hi = false) (pre : List Int) :
    (if (!hn && he) = true then decide (cmpL (pre ++ (v ++ t)) (pre ++ hi) < 0) else decide (cmpL (pre ++ (v ++ t)) (pre ++ hi) ≤ 0) || preL (pre ++ hi) (pre ++ (v ++ t))) = true := by
  rw [cmpL_pre, preL_pre]
  cases hn with
  | true =>
    rw [hln rfl]
    simp [preL]
  | false =>
    obtain ⟨h1, h2⟩ := ha rfl
    obtain ⟨h3, h4⟩ := hf rfl
    rcases free_cases v hi h3 h4 with rfl | ⟨h5, h6⟩
    · cases he with
      | true =>
        exfalso
        apply h2 rfl
        have := cmpL_pre v [] []
        simpa [cmpL] using this
      | false => simp [preL_self_app]
    · have := h6 t
      rw [this.1, this.2]
      cases he with
      | true => simp; omega
      | false => simpa using h1

theorem no_fail {le : Bool} {v lo pre : List Int} (hv : Byt v) (ha : 0 ≤ cmpL v lo ∧ (le = true → cmpL v lo ≠ 0)) (hf : properL lo v = false ∧ properL v lo = false) (hle : le = true) : ffL (pre ++ lo) = false := by
  cases h : ffL (pre ++ lo) with
  | false => rfl
  | true =>
    exfalso
    have hlo := ffL_right _ _ h
    have h2 := ha.2 hle
    rcases free_cases v lo hf.1 hf.2 with rfl | ⟨_, h6⟩
    · apply h2
      have := cmpL_pre v [] []
      simpa [cmpL] using this
    · rcases ff_top v lo hv hlo with h7 | h7
      · have := ha.1; omega
      · have := (h6 []).2
        rw [List.append_nil, h7] at this
        simp at this

end Go.Proofs.Qxb6002590a.Plain
