import Derived.Lib.SpaceUEq
namespace Go.Proofs.Qxb6600704aDoor
namespace Plain
open Go.Lib

def esc (c : UInt8) : List UInt8 := if c.toNat = 34 ∨ c.toNat = 92 then [92, c] else [c]
def escL : List UInt8 → List UInt8
  | [] => []
  | c :: t => esc c ++ escL t
def stepW (acc word : List UInt8) : List UInt8 := (if 1 < acc.length then acc ++ [32] else acc) ++ escL word

def T : Nat → Bool → Bool → List UInt8 → List UInt8
  | 0, _, _, _ => []
  | _ + 1, _, _, [] => []
  | f + 1, p, st, b :: t => if headSpace (b :: t) = 0 then (if p && st then [32] else []) ++ b :: T f false true t else T f true st ((b :: t).drop (headSpace (b :: t)))

theorem escL_append : ∀ a b : List UInt8, escL (a ++ b) = escL a ++ escL b
  | [], _ => rfl
  | c :: t, b => by simp only [List.cons_append, escL, escL_append t b, List.append_assoc]
theorem escL_one (c : UInt8) : escL [c] = esc c := by simp [escL]
theorem esc_len (c : UInt8) : 1 ≤ (esc c).length ∧ (esc c).length ≤ 2 := by
  unfold esc
  split <;> simp
theorem escL_len : ∀ l : List UInt8, l.length ≤ (escL l).length ∧ (escL l).length ≤ 2 * l.length
  | [] => by simp [escL]
  | c :: t => by
    have h1 := esc_len c
    have h2 := escL_len t
    simp only [escL, List.length_append, List.length_cons]
    omega
theorem esc32 : esc 32 = [32] := by decide
theorem stepW_snoc (acc cur : List UInt8) (b : UInt8) : stepW acc (cur ++ [b]) = stepW acc cur ++ esc b := by
  simp only [stepW, escL_append, escL_one, List.append_assoc]
theorem stepW_len (acc w : List UInt8) : acc.length + w.length ≤ (stepW acc w).length := by
  have := (escL_len w).1
  unfold stepW
  split <;> simp only [List.length_append, List.length_cons, List.length_nil] <;> omega
theorem foldl_len : ∀ (ws : List (List UInt8)) (acc : List UInt8), acc.length ≤ (ws.foldl stepW acc).length
  | [], acc => Nat.le_refl _
  | w :: ws, acc => by
    have := foldl_len ws (stepW acc w)
    have := stepW_len acc w
    simp only [List.foldl_cons]
    omega

theorem T_nil (f : Nat) (p st : Bool) : T f p st [] = [] := by cases f <;> rfl

theorem fields_T : ∀ (f : Nat) (l acc : List UInt8), 1 ≤ acc.length →
    (∀ cur, cur ≠ [] → stepW acc cur ++ escL (T f false true l) = (fieldsGoU f cur l).foldl stepW acc) ∧
    (∀ p st, (p && st) = decide (1 < acc.length) → st = decide (1 < acc.length) → acc ++ escL (T f p st l) = (fieldsGoU f [] l).foldl stepW acc)
  | 0, l, acc, _ => by
    refine ⟨fun cur hc => ?_, fun p st _ _ => ?_⟩
    · simp [T, fieldsGoU, hc, escL]
    · simp [T, fieldsGoU, escL]
  | f + 1, [], acc, _ => by
    refine ⟨fun cur hc => ?_, fun p st _ _ => ?_⟩
    · simp [T, fieldsGoU, hc, escL]
    · simp [T, fieldsGoU, escL]
  | f + 1, b :: t, acc, ha => by
    by_cases hs : headSpace (b :: t) = 0
    · refine ⟨fun cur hc => ?_, fun p st h1 h2 => ?_⟩
      · have ih := (fields_T f t acc ha).1 (cur ++ [b]) (by simp)
        simp only [T, if_pos hs, fieldsGoU]
        rw [← ih, stepW_snoc]
        simp [escL]
      · have ih := (fields_T f t acc ha).1 [b] (by simp)
        simp only [T, if_pos hs, fieldsGoU]
        rw [List.nil_append, ← ih]
        simp only [stepW, h1]
        by_cases h : 1 < acc.length
        · simp [h, escL, esc32]
        · simp [h, escL]
    · refine ⟨fun cur hc => ?_, fun p st h1 h2 => ?_⟩
      · have hl := stepW_len acc cur
        have hcl : 0 < cur.length := List.length_pos_iff.2 hc
        have ih := (fields_T f ((b :: t).drop (headSpace (b :: t))) (stepW acc cur) (by omega)).2 true true (by simp; omega) (by simp; omega)
        simp only [T, if_neg hs, fieldsGoU, if_neg hc]
        rw [ih]
        simp
      · have ih := (fields_T f ((b :: t).drop (headSpace (b :: t))) acc ha).2 true st (by rw [← h2]; simp) h2
        simp only [T, if_neg hs, fieldsGoU]
        rw [ih]
        simp

/-- The words of l with one blank between two. -/
def J (l : List UInt8) : List UInt8 := T (l.length + 1) false false l
def quoteL (l : List UInt8) : List UInt8 := 34 :: escL (J l) ++ [34]

theorem quote_fields (l : List UInt8) : (fieldsD l).foldl stepW [34] ++ [34] = quoteL l := by
  unfold fieldsD quoteL J
  rw [← fieldsGo_eq (l.length + 1) (l.length + 1) [] l (by omega) (by omega), ← (fields_T (l.length + 1) l [34] (by simp)).2 false false (by simp) (by simp)]
  simp

theorem T_len : ∀ (f : Nat) (p st : Bool) (l : List UInt8), (T f p st l).length ≤ 2 * l.length
  | 0, _, _, _ => by simp [T]
  | _ + 1, _, _, [] => by simp [T]
  | f + 1, p, st, b :: t => by
    simp only [T]
    split
    · have := T_len f false true t
      simp only [List.length_append, List.length_cons]
      split <;> simp <;> omega
    · have := T_len f true st ((b :: t).drop (headSpace (b :: t)))
      rw [List.length_drop] at this
      simp only [List.length_cons] at this ⊢
      omega
theorem quoteL_len (l : List UInt8) : (quoteL l).length ≤ 4 * l.length + 2 := by
  have h1 := (escL_len (J l)).2
  have h2 : (J l).length ≤ 2 * l.length := T_len _ _ _ _
  unfold quoteL
  simp only [List.length_append, List.length_cons, List.length_nil]
  omega
end Plain
end Go.Proofs.Qxb6600704aDoor
