/-
  The plain mathematics of seat b6002590a: byte strings as lists of integers; no Go here.
-/
namespace Go.Proofs.Qxb6002590a.Plain

/-- The order of two byte strings: -1, 0, 1. -/
def cmpL : List Int → List Int → Int
  | [], [] => 0
  | [], _ :: _ => -1
  | _ :: _, [] => 1
  | x :: xs, y :: ys => if x < y then -1 else if y < x then 1 else cmpL xs ys

/-- Does k begin with p? (the prefix first) -/
def preL : List Int → List Int → Bool
  | [], _ => true
  | _ :: _, [] => false
  | x :: p, y :: k => (y == x) && preL p k

def ffL : List Int → Bool
  | [] => true
  | x :: l => (x == 255) && ffL l

/-- The least byte string above all that begin with p; none where p is nothing but 255. -/
def afterL : List Int → Option (List Int)
  | [] => none
  | x :: p => match afterL p with
    | some q => some (x :: q)
    | none => if x = 255 then none else some [x + 1]

def Byt (l : List Int) : Prop := ∀ x ∈ l, 0 ≤ x ∧ x ≤ 255

theorem cmpL_drop (a b : List Int) (k : Nat) (h1 : k < a.length) (h2 : k < b.length) (h : a[k] = b[k]) : cmpL (a.drop k) (b.drop k) = cmpL (a.drop (k + 1)) (b.drop (k + 1)) := by
  rw [List.drop_eq_getElem_cons h1, List.drop_eq_getElem_cons h2, cmpL, h]
  simp
theorem cmpL_lt (a b : List Int) (k : Nat) (h1 : k < a.length) (h2 : k < b.length) (h : a[k] < b[k]) : cmpL (a.drop k) (b.drop k) = -1 := by
  rw [List.drop_eq_getElem_cons h1, List.drop_eq_getElem_cons h2, cmpL, if_pos h]
theorem cmpL_gt (a b : List Int) (k : Nat) (h1 : k < a.length) (h2 : k < b.length) (h : b[k] < a[k]) : cmpL (a.drop k) (b.drop k) = 1 := by
  rw [List.drop_eq_getElem_cons h1, List.drop_eq_getElem_cons h2, cmpL, if_neg (by omega), if_pos h]
theorem cmpL_end (a b : List Int) (k : Nat) (h : a.length ≤ k ∨ b.length ≤ k) (ha : k ≤ a.length) (hb : k ≤ b.length) : cmpL (a.drop k) (b.drop k) = if a.length < b.length then -1 else if b.length < a.length then 1 else 0 := by
  cases e1 : a.drop k with
  | nil =>
    have l1 : a.length ≤ k := by have := congrArg List.length e1; simp at this; omega
    cases e2 : b.drop k with
    | nil =>
      have l2 : b.length ≤ k := by have := congrArg List.length e2; simp at this; omega
      rw [if_neg (by omega), if_neg (by omega)]; rfl
    | cons y ys =>
      have l2 : k < b.length := by have := congrArg List.length e2; simp at this; omega
      rw [if_pos (by omega)]; rfl
  | cons x xs =>
    have l1 : k < a.length := by have := congrArg List.length e1; simp at this; omega
    cases e2 : b.drop k with
    | nil =>
      have l2 : b.length ≤ k := by have := congrArg List.length e2; simp at this; omega
      rw [if_neg (by omega), if_pos (by omega)]; rfl
    | cons y ys =>
      have l2 : k < b.length := by have := congrArg List.length e2; simp at this; omega
      omega

theorem preL_drop (p k : List Int) (i : Nat) (h1 : i < p.length) (h2 : i < k.length) : preL (p.drop i) (k.drop i) = ((k[i] == p[i]) && preL (p.drop (i + 1)) (k.drop (i + 1))) := by
  rw [List.drop_eq_getElem_cons h1, List.drop_eq_getElem_cons h2, preL]
theorem preL_end (p k : List Int) (i : Nat) (h : p.length ≤ i) : preL (p.drop i) k = true := by
  rw [List.drop_of_length_le h]; rfl
theorem preL_long (p k : List Int) (h : k.length < p.length) : preL p k = false := by
  induction p generalizing k with
  | nil => simp at h
  | cons x p ih =>
    cases k with
    | nil => rfl
    | cons y k => simp only [preL]; rw [ih k (by simpa using h)]; simp
theorem ffL_drop (p : List Int) (i : Nat) (h1 : i < p.length) : ffL (p.drop i) = ((p[i] == 255) && ffL (p.drop (i + 1))) := by
  rw [List.drop_eq_getElem_cons h1, ffL]
theorem ffL_end (p : List Int) (i : Nat) (h : p.length ≤ i) : ffL (p.drop i) = true := by
  rw [List.drop_of_length_le h]; rfl


theorem afterL_ff (l : List Int) (h : ffL l = true) : afterL l = none := by
  induction l with
  | nil => rfl
  | cons x l ih =>
    simp only [ffL, Bool.and_eq_true, beq_iff_eq] at h
    rw [afterL, ih h.2, h.1]; rfl
theorem afterL_some (l : List Int) (k : Nat) (h : k < l.length) (hf : ffL (l.drop (k + 1)) = true) (hx : l[k] ≠ 255) : afterL l = some ((l.take (k + 1)).set k (l[k] + 1)) := by
  induction l generalizing k with
  | nil => simp at h
  | cons x l ih =>
    cases k with
    | zero =>
      simp only [List.drop_succ_cons, List.drop_zero] at hf
      simp only [List.getElem_cons_zero] at hx
      rw [afterL, afterL_ff l hf]; simp [hx]
    | succ k =>
      simp only [List.drop_succ_cons, List.getElem_cons_succ] at hf hx
      rw [afterL, ih k (by simpa using h) hf hx]; simp

end Go.Proofs.Qxb6002590a.Plain
