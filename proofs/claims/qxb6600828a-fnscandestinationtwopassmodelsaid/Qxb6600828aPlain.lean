/-
  The plain mathematics of seat b6600828a: the two readings of a link destination over positions; no Go here.
-/
namespace Go.Proofs.Qxb6600828a.Plain

def punctB (c : Int) : Bool := (decide (33 ≤ c) && decide (c ≤ 47)) || (decide (58 ≤ c) && decide (c ≤ 64)) || (decide (91 ≤ c) && decide (c ≤ 96)) || (decide (123 ≤ c) && decide (c ≤ 126))
def blankB (c : Int) : Bool := c == 32 || (decide (9 ≤ c) && decide (c ≤ 13))

/-- The byte at k begins a backslash pair. -/
def pairB (l : List Int) (k : Nat) : Bool := (l.getD k 0 == 92) && decide (k + 1 < l.length) && punctB (l.getD (k + 1) 0)
/-- Read in pairs from f on: is the byte at f + m escaped? -/
def mk (l : List Int) (f : Nat) : Nat → Bool
  | 0 => false
  | m + 1 => !mk l f m && pairB l (f + m)
def dl (l : List Int) (f m : Nat) : Int := if mk l f m = true then 0 else if l.getD (f + m) 0 = 40 then 1 else if l.getD (f + m) 0 = 41 then -1 else 0
def bal (l : List Int) (f : Nat) : Nat → Int
  | 0 => 0
  | m + 1 => bal l f m + dl l f m
def stopB (l : List Int) (f m : Nat) : Bool := !mk l f m && (blankB (l.getD (f + m) 0) || (l.getD (f + m) 0 == 41 && bal l f m == 0))
def astopB (l : List Int) (f m : Nat) : Bool := !mk l f m && (l.getD (f + m) 0 == 62 || (l.getD (f + m) 0 == 60 || l.getD (f + m) 0 == 10))

theorem mk_pair {l : List Int} {f m : Nat} (h : mk l f m = false) (hp : pairB l (f + m) = true) : mk l f (m + 1) = true ∧ mk l f (m + 2) = false := by
  have h1 : mk l f (m + 1) = true := by simp [mk, h, hp]
  exact ⟨h1, by rw [mk, h1]; rfl⟩
theorem mk_plain {l : List Int} {f m : Nat} (h : mk l f m = false) (hp : pairB l (f + m) = false) : mk l f (m + 1) = false := by simp [mk, h, hp]
theorem mk_after {l : List Int} {f m : Nat} (h : mk l f m = true) : mk l f (m + 1) = false := by simp [mk, h]
theorem pair_byte {l : List Int} {k : Nat} (h : pairB l k = true) : l.getD k 0 = 92 ∧ k + 1 < l.length := by
  unfold pairB at h
  simp only [Bool.and_eq_true, beq_iff_eq, decide_eq_true_eq] at h
  exact h.1
theorem dl_mk {l : List Int} {f m : Nat} (h : mk l f m = true) : dl l f m = 0 := by unfold dl; rw [if_pos h]
theorem dl_other {l : List Int} {f m : Nat} (h1 : l.getD (f + m) 0 ≠ 40) (h2 : l.getD (f + m) 0 ≠ 41) : dl l f m = 0 := by
  unfold dl
  rw [if_neg h1, if_neg h2]
  split <;> rfl
theorem dl_open {l : List Int} {f m : Nat} (h : mk l f m = false) (h1 : l.getD (f + m) 0 = 40) : dl l f m = 1 := by
  unfold dl; rw [if_neg (by simp [h]), if_pos h1]
theorem dl_shut {l : List Int} {f m : Nat} (h : mk l f m = false) (h1 : l.getD (f + m) 0 = 41) : dl l f m = -1 := by
  unfold dl; rw [if_neg (by simp [h]), if_neg (by omega), if_pos h1]
theorem dl_le (l : List Int) (f m : Nat) : -1 ≤ dl l f m ∧ dl l f m ≤ 1 := by
  unfold dl; repeat' split
  all_goals omega
theorem bal_le (l : List Int) (f m : Nat) : -(m : Int) ≤ bal l f m ∧ bal l f m ≤ m := by
  induction m with
  | zero => simp [bal]
  | succ m ih => have := dl_le l f m; simp only [bal]; omega

/-- What a reading answers: nothing, or where the text lies and where the destination ends. -/
def Ang (l : List Int) (f : Nat) (r : Option (Nat × Nat × Nat)) : Prop :=
  (r = none ∧ ∀ t, f + t < l.length → astopB l f t = false) ∨
  ∃ m, f + m < l.length ∧ (∀ t, t < m → astopB l f t = false) ∧ astopB l f m = true ∧ r = if l.getD (f + m) 0 = 62 then some (f, f + m, f + m + 1) else none
def Bare (l : List Int) (f : Nat) (r : Option (Nat × Nat × Nat)) : Prop :=
  ∃ m, f + m ≤ l.length ∧ (∀ t, t < m → stopB l f t = false) ∧ (f + m = l.length ∨ stopB l f m = true) ∧
    ((r = none ∧ (m = 0 ∨ bal l f m ≠ 0 ∨ ∃ t, t ≤ m ∧ 32 < bal l f t)) ∨ (r = some (f, f + m, f + m) ∧ m ≠ 0 ∧ bal l f m = 0 ∧ ∀ t, t ≤ m → bal l f t ≤ 32))
def Sc (l : List Int) (i : Nat) (r : Option (Nat × Nat × Nat)) : Prop := if i < l.length ∧ l.getD i 0 = 60 then Ang l (i + 1) r else Bare l i r

theorem ang_one {l : List Int} {f : Nat} {r r' : Option (Nat × Nat × Nat)} (h : Ang l f r) (h' : Ang l f r') : r = r' := by
  rcases h with ⟨h1, h2⟩ | ⟨m, h1, h2, h3, h4⟩ <;> rcases h' with ⟨g1, g2⟩ | ⟨m', g1, g2, g3, g4⟩
  · rw [h1, g1]
  · rw [h2 m' g1] at g3; simp at g3
  · rw [g2 m h1] at h3; simp at h3
  · have : m = m' := by
      rcases Nat.lt_trichotomy m m' with h | h | h
      · rw [g2 m h] at h3; simp at h3
      · exact h
      · rw [h2 m' h] at g3; simp at g3
    subst this
    rw [h4, g4]

theorem bare_one {l : List Int} {f : Nat} {r r' : Option (Nat × Nat × Nat)} (h : Bare l f r) (h' : Bare l f r') : r = r' := by
  obtain ⟨m, h1, h2, h3, h4⟩ := h
  obtain ⟨m', g1, g2, g3, g4⟩ := h'
  have : m = m' := by
    rcases Nat.lt_trichotomy m m' with h | h | h
    · rcases h3 with h3 | h3
      · omega
      · rw [g2 m h] at h3; simp at h3
    · exact h
    · rcases g3 with g3 | g3
      · omega
      · rw [h2 m' h] at g3; simp at g3
  subst this
  rcases h4 with ⟨h4, h5⟩ | ⟨h4, h5, h6, h7⟩ <;> rcases g4 with ⟨g4, g5⟩ | ⟨g4, g5, g6, g7⟩
  · rw [h4, g4]
  · exfalso
    rcases h5 with h5 | h5 | ⟨t, ht, h5⟩
    · exact g5 h5
    · exact h5 g6
    · have := g7 t ht; omega
  · exfalso
    rcases g5 with h5' | h5' | ⟨t, ht, h5'⟩
    · exact h5 h5'
    · exact h5' h6
    · have := h7 t ht; omega
  · rw [h4, g4]

theorem sc_one {l : List Int} {i : Nat} {r r' : Option (Nat × Nat × Nat)} (h : Sc l i r) (h' : Sc l i r') : r = r' := by
  unfold Sc at h h'
  split at h
  · rename_i hc; rw [if_pos hc] at h'; exact ang_one h h'
  · rename_i hc; rw [if_neg hc] at h'; exact bare_one h h'

/-- From a place without a stop behind it there is an end. -/
theorem bare_end (l : List Int) (f m : Nat) (h : f + m ≤ l.length) (hs : ∀ t, t < m → stopB l f t = false) : ∃ e, m ≤ e ∧ f + e ≤ l.length ∧ (∀ t, t < e → stopB l f t = false) ∧ (f + e = l.length ∨ stopB l f e = true) := by
  obtain ⟨g, hg⟩ : ∃ g, f + m + g = l.length := ⟨l.length - (f + m), by omega⟩
  induction g generalizing m with
  | zero => exact ⟨m, Nat.le_refl _, h, hs, .inl (by omega)⟩
  | succ g ih =>
    cases e : stopB l f m with
    | true => exact ⟨m, Nat.le_refl _, h, hs, .inr e⟩
    | false =>
      obtain ⟨e', h1, h2⟩ := ih (m + 1) (by omega) (fun t ht => by
        by_cases hm : t = m
        · rw [hm]; exact e
        · exact hs t (by omega)) (by omega)
      exact ⟨e', by omega, h2⟩

theorem bare_over {l : List Int} {f m : Nat} (h : f + m ≤ l.length) (hs : ∀ t, t < m → stopB l f t = false) (hb : 32 < bal l f m) : Bare l f none := by
  obtain ⟨e, h1, h2, h3, h4⟩ := bare_end l f m h hs
  exact ⟨e, h2, h3, h4, .inl ⟨rfl, .inr (.inr ⟨m, h1, hb⟩)⟩⟩

end Go.Proofs.Qxb6600828a.Plain
