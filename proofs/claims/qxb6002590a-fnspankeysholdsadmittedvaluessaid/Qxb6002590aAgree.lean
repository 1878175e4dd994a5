import Derived.Test.Qxb6002590aEnds
namespace Go.Proofs.Qxb6002590a
open Go.RowKit Plain

theorem lower_none {ln le pn : Bool} {pre lo : List Int} (hf : failL ln le pre lo = false) : (lowerL ln le pn pre lo).isNone = (ln && pn) := by
  unfold failL at hf
  unfold lowerL
  by_cases h : (!ln && le) = true
  · rw [if_pos h]
    rw [h] at hf
    simp only [Bool.true_and] at hf
    rw [hf]
    cases ln <;> simp_all
  · rw [if_neg h]
    cases ln <;> cases pn <;> simp

theorem upper_none {hn he pn : Bool} {pre hi : List Int} (h1 : hn = true → hi = []) (h2 : pn = true → pre = []) : (upperL hn he pn pre hi).isNone = (!(!hn && he) && ffL (pre ++ hi)) := by
  unfold upperL
  by_cases h : (!hn && he) = true
  · rw [if_pos h, h]; rfl
  · rw [if_neg h]
    rw [Bool.not_eq_true] at h
    rw [h]
    by_cases h3 : (!hn || !pn) = true
    · rw [if_pos h3, afterL_isNone]; simp
    · rw [if_neg h3]
      have : hn = true ∧ pn = true := by simpa using h3
      rw [h1 this.1, h2 this.2]; rfl

def inLow (x : Bool) (k pl : List Int) : Bool := if x = true then decide (0 < cmpL k pl) && !preL pl k else decide (0 ≤ cmpL k pl)
def inHigh (x : Bool) (k ph : List Int) : Bool := if x = true then decide (cmpL k ph < 0) else decide (cmpL k ph ≤ 0) || preL ph k

theorem low_agree {ln le pn : Bool} {pre lo k : List Int} (hk : Byt k) (hf : failL ln le pre lo = false) (h1 : ln = true → lo = []) (h2 : pn = true → pre = []) : aboveB (lowerL ln le pn pre lo) k = inLow (!ln && le) k (pre ++ lo) := by
  unfold failL at hf
  unfold lowerL inLow
  by_cases h : (!ln && le) = true
  · rw [if_pos h, if_pos h]
    rw [h] at hf
    cases ha : afterL (pre ++ lo) with
    | none => rw [ha] at hf; simp at hf
    | some q =>
      have := after_iff k _ q hk ha
      simp only [aboveB]
      rw [Bool.eq_iff_iff]
      simp only [decide_eq_true_eq, Bool.and_eq_true, Bool.not_eq_true']
      exact this
  · rw [if_neg h, if_neg h]
    by_cases h3 : (!ln || !pn) = true
    · rw [if_pos h3]; rfl
    · rw [if_neg h3]
      have : ln = true ∧ pn = true := by simpa using h3
      rw [h1 this.1, h2 this.2]
      simp [aboveB, cmpL_nil_right]

theorem high_agree {hn he pn : Bool} {pre hi k : List Int} (hk : Byt k) (h1 : hn = true → hi = []) (h2 : pn = true → pre = []) : belowB (upperL hn he pn pre hi) k = inHigh (!hn && he) k (pre ++ hi) := by
  unfold upperL inHigh
  by_cases h : (!hn && he) = true
  · rw [if_pos h, if_pos h]; rfl
  · rw [if_neg h, if_neg h]
    by_cases h3 : (!hn || !pn) = true
    · rw [if_pos h3]
      cases ha : afterL (pre ++ hi) with
      | none =>
        have hff : ffL (pre ++ hi) = true := by rw [← afterL_isNone, ha]; rfl
        have := ff_top k _ hk hff
        simp only [belowB]
        symm
        simpa using this
      | some q =>
        have := after_lt k _ q hk ha
        simp only [belowB]
        rw [Bool.eq_iff_iff]
        simp only [decide_eq_true_eq, Bool.or_eq_true]
        exact this
    · rw [if_neg h3]
      have : hn = true ∧ pn = true := by simpa using h3
      rw [h1 this.1, h2 this.2]
      simp [belowB, preL]

theorem run_eql_ptr_nil (q : Option Addr) (w : World) : (binOp .eql 25 (.pointer q) (.pointer none)).run Try.prog w = .ok (.bool q.isNone) w := by
  cases q <;> kernel_rfl

end Go.Proofs.Qxb6002590a
