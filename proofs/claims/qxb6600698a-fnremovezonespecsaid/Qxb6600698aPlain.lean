/-
  The plain mathematics of seat b6600698a: byte strings as lists of bytes; no Go here.
-/
namespace Go.Proofs.Qxb6600698a.Plain

/-- r is the last place of c in l, or -1. -/
def IsLast (l : List UInt8) (c : UInt8) (r : Int) : Prop := (r = -1 ∧ c ∉ l) ∨ ∃ a b, l = a ++ c :: b ∧ c ∉ b ∧ r = (a.length : Int)

def splitLast (c : UInt8) : List UInt8 → Option (List UInt8 × List UInt8)
  | [] => none
  | x :: xs => match splitLast c xs with
    | some (a, b) => some (x :: a, b)
    | none => if x = c then some ([], xs) else none

theorem splitLast_none (c : UInt8) (l : List UInt8) (h : c ∉ l) : splitLast c l = none := by
  induction l with
  | nil => rfl
  | cons x l ih =>
    simp only [List.mem_cons, not_or] at h
    rw [splitLast, ih h.2]
    simp only
    rw [if_neg (fun e => h.1 e.symm)]

theorem splitLast_some (c : UInt8) (a b : List UInt8) (h : c ∉ b) : splitLast c (a ++ c :: b) = some (a, b) := by
  induction a with
  | nil => rw [List.nil_append, splitLast, splitLast_none c b h]; simp
  | cons x a ih => rw [List.cons_append, splitLast, ih]

theorem IsLast.unique {l : List UInt8} {c : UInt8} {r : Int} (h : IsLast l c r) : (r = -1 ∧ splitLast c l = none ∧ c ∉ l) ∨ ∃ a b, l = a ++ c :: b ∧ c ∉ b ∧ r = (a.length : Int) ∧ splitLast c l = some (a, b) := by
  rcases h with ⟨h1, h2⟩ | ⟨a, b, h1, h2, h3⟩
  · exact .inl ⟨h1, splitLast_none _ _ h2, h2⟩
  · subst h1
    exact .inr ⟨a, b, rfl, h2, h3, splitLast_some _ _ _ h2⟩

/-- What removeZone answers. -/
def rzL (l : List UInt8) : List UInt8 :=
  if l.head? = some 91 then
    match splitLast 93 l with
    | none => l
    | some (a, b) => match splitLast 37 a with
      | none => l
      | some (p, _) => p ++ 93 :: b
  else l

theorem rz_no_head {l : List UInt8} (h : l.head? ≠ some 91) : rzL l = l := by unfold rzL; rw [if_neg h]
theorem rz_no_end {l : List UInt8} (h : (93 : UInt8) ∉ l) : rzL l = l := by
  unfold rzL
  split
  · rw [splitLast_none _ _ h]
  · rfl
theorem rz_no_zone {l a b : List UInt8} (h : l = a ++ 93 :: b) (hb : (93 : UInt8) ∉ b) (ha : (37 : UInt8) ∉ a) : rzL l = l := by
  unfold rzL
  split
  · rw [h, splitLast_some _ _ _ hb]
    simp only
    rw [splitLast_none _ _ ha]
  · rfl
theorem rz_cut {l a b p q : List UInt8} (hh : l.head? = some 91) (h : l = a ++ 93 :: b) (hb : (93 : UInt8) ∉ b) (ha : a = p ++ 37 :: q) (hq : (37 : UInt8) ∉ q) : rzL l = p ++ 93 :: b := by
  unfold rzL
  rw [if_pos hh, h, splitLast_some _ _ _ hb]
  simp only
  rw [ha, splitLast_some _ _ _ hq]

theorem isLast_hit {l : List UInt8} {c : UInt8} {k : Nat} (hk : k < l.length) (h : l[k] = c) (hr : ∀ j (hj : j < l.length), k < j → l[j] ≠ c) : IsLast l c k := by
  right
  refine ⟨l.take k, l.drop (k + 1), ?_, ?_, ?_⟩
  · rw [← h]
    conv => lhs; rw [← List.take_append_drop k l, List.drop_eq_getElem_cons hk]
  · intro hm
    obtain ⟨j, hj, e⟩ := List.getElem_of_mem hm
    simp only [List.length_drop] at hj
    rw [List.getElem_drop] at e
    exact hr (k + 1 + j) (by omega) (by omega) e
  · simp; omega
theorem isLast_miss {l : List UInt8} {c : UInt8} (hr : ∀ j (hj : j < l.length), l[j] ≠ c) : IsLast l c (-1) := by
  left
  refine ⟨rfl, fun hm => ?_⟩
  obtain ⟨j, hj, e⟩ := List.getElem_of_mem hm
  exact hr j hj e

end Go.Proofs.Qxb6600698a.Plain
