/-
  More of the plain mathematics of seat b6002590a; no Go here.
-/
import Derived.Test.Qxb6002590aPlain
namespace Go.Proofs.Qxb6002590a.Plain

theorem cmpL_cons (x y : Int) (a b : List Int) : cmpL (x :: a) (y :: b) = if x < y then -1 else if y < x then 1 else cmpL a b := rfl
theorem cmpL_nil_right (a : List Int) : 0 ≤ cmpL a [] := by cases a <;> simp [cmpL]
theorem cmpL_nil_cons (x : Int) (a : List Int) : cmpL [] (x :: a) = -1 := rfl

theorem byt_tail {x : Int} {l : List Int} (h : Byt (x :: l)) : Byt l := fun y hy => h y (List.mem_cons_of_mem _ hy)
theorem byt_head {x : Int} {l : List Int} (h : Byt (x :: l)) : 0 ≤ x ∧ x ≤ 255 := h x (by simp)

theorem afterL_isNone (p : List Int) : (afterL p).isNone = ffL p := by
  induction p with
  | nil => rfl
  | cons x p ih =>
    rw [afterL, ffL, ← ih]
    cases h : afterL p with
    | none =>
      by_cases hx : x = 255 <;> simp [hx]
    | some q => simp

/-- All 255: every byte string is at most p or begins with p. -/
theorem ff_top (k p : List Int) (hk : Byt k) (hf : ffL p = true) : cmpL k p ≤ 0 ∨ preL p k = true := by
  induction p generalizing k with
  | nil => exact .inr rfl
  | cons x p ih =>
    simp only [ffL, Bool.and_eq_true, beq_iff_eq] at hf
    cases k with
    | nil => left; simp [cmpL]
    | cons y k =>
      have hy := byt_head hk
      rw [cmpL_cons]
      by_cases h1 : y < x
      · left; rw [if_pos h1]; omega
      · have e : y = x := by omega
        subst e
        rw [if_neg (by omega), if_neg (by omega)]
        rcases ih k (byt_tail hk) hf.2 with h | h
        · exact .inl h
        · right; simp [preL, h]

theorem after_iff (k p q : List Int) (hk : Byt k) (h : afterL p = some q) : (0 ≤ cmpL k q) ↔ (0 < cmpL k p ∧ preL p k = false) := by
  induction p generalizing k q with
  | nil => simp [afterL] at h
  | cons x p ih =>
    rw [afterL] at h
    cases hp : afterL p with
    | some q' =>
      rw [hp] at h
      simp only [Option.some.injEq] at h
      subst h
      cases k with
      | nil => simp [cmpL]
      | cons y k =>
        rw [cmpL_cons, cmpL_cons]
        by_cases h1 : y < x
        · rw [if_pos h1, if_pos h1]; simp
        · rw [if_neg h1, if_neg h1]
          by_cases h2 : x < y
          · rw [if_pos h2, if_pos h2]
            have : ¬ y = x := by omega
            simp [preL, this]
          · rw [if_neg h2, if_neg h2]
            have e : y = x := by omega
            subst e
            rw [ih k q' (byt_tail hk) hp]
            simp [preL]
    | none =>
      rw [hp] at h
      simp only at h
      by_cases hx : x = 255
      · rw [if_pos hx] at h; simp at h
      · rw [if_neg hx] at h
        simp only [Option.some.injEq] at h
        subst h
        have hff : ffL p = true := by rw [← afterL_isNone, hp]; rfl
        cases k with
        | nil => simp [cmpL]
        | cons y k =>
          rw [cmpL_cons, cmpL_cons]
          by_cases h1 : y < x
          · rw [if_pos (by omega), if_pos h1]; simp
          · by_cases h2 : x < y
            · have : ¬ y = x := by omega
              rw [if_neg (by omega), if_neg h1, if_pos h2]
              constructor
              · intro _; simp [preL, this]
              · intro _
                split
                · omega
                · exact cmpL_nil_right _
            · have e : y = x := by omega
              subst e
              rw [if_pos (by omega), if_neg h1, if_neg h2]
              constructor
              · intro h'; omega
              · rintro ⟨h3, h4⟩
                rcases ff_top k p (byt_tail hk) hff with h5 | h5
                · omega
                · simp [preL, h5] at h4

theorem after_lt (k p q : List Int) (hk : Byt k) (h : afterL p = some q) : (cmpL k q < 0) ↔ (cmpL k p ≤ 0 ∨ preL p k = true) := by
  have := after_iff k p q hk h
  constructor
  · intro h1
    by_cases h2 : 0 < cmpL k p
    · right
      cases h3 : preL p k with
      | true => rfl
      | false => have := this.2 ⟨h2, h3⟩; omega
    · left; omega
  · intro h1
    by_cases h2 : cmpL k q < 0
    · exact h2
    · have h3 := this.1 (by omega)
      rcases h1 with h1 | h1
      · omega
      · rw [h3.2] at h1; simp at h1

end Go.Proofs.Qxb6002590a.Plain
