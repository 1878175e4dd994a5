import Derived.Test.Qxb6600704aDoorSpace
namespace Go.Proofs.Qxb6600704aDoor
namespace Plain
open Go.Lib

/-- One blank between two words, none at the ends; p: a blank (or the start) stands before. -/
def NF : Bool → List UInt8 → Prop
  | p, [] => p = false
  | p, b :: t => (b = 32 ∧ p = false ∧ NF true t) ∨ (b ≠ 32 ∧ headSpace (b :: t) = 0 ∧ NF false t)

theorem head32 (t : List UInt8) : headSpace (32 :: t) = 1 := ws1 32 t (.inl rfl)
theorem ne32 {b : UInt8} {t : List UInt8} (h : headSpace (b :: t) = 0) : b ≠ 32 := by
  rintro rfl
  rw [head32] at h
  omega

theorem seqs_high : ∀ q ∈ spaceSeqs, q.length = 1 ∨ ∀ x ∈ q, 128 ≤ x.toNat := by decide

/-- White space at the head of b :: r, where r's high bytes at its head are those of t. -/
theorem head_alike {b : UInt8} {t r : List UInt8} (h : headSpace (b :: t) = 0) (hr : ∀ q : List UInt8, (∀ x ∈ q, 128 ≤ x.toNat) → q <+: r → q <+: t) : headSpace (b :: r) = 0 := by
  apply headSpace_zero
  intro q hq hp
  have hz := zero_of_headSpace h q hq
  match q, hq, hp, hz with
  | [], hq, _, _ => exact absurd (seqs_nonempty _ hq) (by simp)
  | c :: q', hq, hp, hz =>
    obtain ⟨rfl, hp'⟩ := List.cons_prefix_cons.1 hp
    rcases seqs_high _ hq with h1 | h1
    · have : q' = [] := List.length_eq_zero_iff.1 (by simpa using h1)
      subst this
      exact hz (List.cons_prefix_cons.2 ⟨rfl, List.nil_prefix⟩)
    · exact hz (List.cons_prefix_cons.2 ⟨rfl, hr q' (fun x hx => h1 x (by simp [hx])) hp'⟩)

theorem T_tt : ∀ (f : Nat) (l : List UInt8), T f true true l = [] ∨ ∃ t, T f true true l = 32 :: t
  | 0, _ => .inl rfl
  | _ + 1, [] => .inl rfl
  | f + 1, b :: t => by
    simp only [T]
    split
    · exact .inr ⟨_, rfl⟩
    · exact T_tt f _

theorem T_high : ∀ (q : List UInt8) (f : Nat) (l : List UInt8), (∀ x ∈ q, 128 ≤ x.toNat) → q <+: T f false true l → q <+: l
  | [], _, _, _, _ => List.nil_prefix
  | y :: q, 0, l, _, hp => by simp [T] at hp
  | y :: q, f + 1, [], _, hp => by simp [T] at hp
  | y :: q, f + 1, b :: t, hh, hp => by
    simp only [T] at hp
    split at hp
    · simp only [Bool.false_and, Bool.false_eq_true, if_false, List.nil_append] at hp
      obtain ⟨rfl, hp'⟩ := List.cons_prefix_cons.1 hp
      exact List.cons_prefix_cons.2 ⟨rfl, T_high q f t (fun x hx => hh x (by simp [hx])) hp'⟩
    · rcases T_tt f ((b :: t).drop (headSpace (b :: t))) with e | ⟨t', e⟩
      · rw [e] at hp; simp at hp
      · rw [e] at hp
        obtain ⟨rfl, _⟩ := List.cons_prefix_cons.1 hp
        have := hh 32 (by simp)
        simp at this

theorem NF_T : ∀ (f : Nat) (l : List UInt8), NF false (T f false true l) ∧ (T f true true l = [] ∨ ∃ t, T f true true l = 32 :: t ∧ NF true t) ∧ (∀ p, T f p false l = [] ∨ NF true (T f p false l))
  | 0, _ => ⟨rfl, .inl rfl, fun _ => .inl rfl⟩
  | _ + 1, [] => ⟨rfl, .inl rfl, fun _ => .inl rfl⟩
  | f + 1, b :: t => by
    by_cases hs : headSpace (b :: t) = 0
    · have hb := ne32 hs
      have h1 := head_alike hs (fun q hq hp => T_high q f t hq hp)
      have ih := (NF_T f t).1
      simp only [T, if_pos hs]
      refine ⟨?_, ?_, fun p => ?_⟩
      · exact .inr ⟨hb, h1, ih⟩
      · exact .inr ⟨_, rfl, .inr ⟨hb, h1, ih⟩⟩
      · right
        simp only [Bool.and_false, Bool.false_eq_true, if_false, List.nil_append]
        exact .inr ⟨hb, h1, ih⟩
    · have ih := NF_T f ((b :: t).drop (headSpace (b :: t)))
      simp only [T, if_neg hs]
      refine ⟨?_, ih.2.1, fun p => ih.2.2 true⟩
      rcases ih.2.1 with e | ⟨t', e, h⟩
      · rw [e]; rfl
      · rw [e]; exact .inl ⟨rfl, rfl, h⟩

theorem T_NF : ∀ (l : List UInt8) (f : Nat), l.length ≤ f → (NF false l → T f false true l = l) ∧ (NF true l → T f true true l = 32 :: l) ∧ (NF true l → T f false false l = l)
  | [], f, _ => by
    refine ⟨fun _ => T_nil _ _ _, fun h => ?_, fun h => ?_⟩ <;> exact absurd h (by simp [NF])
  | b :: t, 0, h => by simp at h
  | b :: t, f + 1, hf => by
    have hf' : t.length ≤ f := by simpa using hf
    have ih := T_NF t f hf'
    refine ⟨fun h => ?_, fun h => ?_, fun h => ?_⟩
    · rcases h with ⟨rfl, _, h⟩ | ⟨hb, hs, h⟩
      · simp only [T, head32]
        rw [if_neg (by omega)]
        simpa using ih.2.1 h
      · simp only [T, if_pos hs]
        rw [ih.1 h]; rfl
    · rcases h with ⟨_, h, _⟩ | ⟨hb, hs, h⟩
      · cases h
      · simp only [T, if_pos hs]
        rw [ih.1 h]; rfl
    · rcases h with ⟨_, h, _⟩ | ⟨hb, hs, h⟩
      · cases h
      · simp only [T, if_pos hs]
        rw [ih.1 h]; rfl

theorem J_NF (l : List UInt8) : J l = [] ∨ NF true (J l) := (NF_T (l.length + 1) l).2.2 false
theorem J_J (l : List UInt8) : J (J l) = J l := by
  rcases J_NF l with e | h
  · rw [e]; rfl
  · exact (T_NF (J l) ((J l).length + 1) (by omega)).2.2 h

/-- The law's scan, from here on. -/
def SP : List UInt8 → Prop
  | [] => True
  | b :: t => (b ≠ 32 → headSpace (b :: t) = 0) ∧ (b = 32 → t.head? ≠ some 32) ∧ SP t

theorem esc_high : ∀ (q t : List UInt8), (∀ x ∈ q, 128 ≤ x.toNat) → q <+: escL t ++ [34] → q <+: t
  | [], _, _, _ => List.nil_prefix
  | y :: q, [], hh, hp => by
    simp only [escL, List.nil_append] at hp
    obtain ⟨rfl, _⟩ := List.cons_prefix_cons.1 hp
    have := hh 34 (by simp)
    simp at this
  | y :: q, c :: t, hh, hp => by
    by_cases hc : c.toNat = 34 ∨ c.toNat = 92
    · simp only [escL, esc, if_pos hc, List.cons_append] at hp
      obtain ⟨rfl, _⟩ := List.cons_prefix_cons.1 hp
      have := hh 92 (by simp)
      simp at this
    · simp only [escL, esc, if_neg hc, List.cons_append, List.nil_append] at hp
      obtain ⟨rfl, hp'⟩ := List.cons_prefix_cons.1 hp
      exact List.cons_prefix_cons.2 ⟨rfl, esc_high q t (fun x hx => hh x (by simp [hx])) hp'⟩

theorem head_low (b : UInt8) (t : List UInt8) (h : b.toNat = 34 ∨ b.toNat = 92) : headSpace (b :: t) = 0 := by
  rw [wsL, ws, if_neg (by omega), if_neg (by omega), if_neg (by omega)]

theorem SP_esc : ∀ (x : List UInt8) (p : Bool), NF p x → SP (escL x ++ [34]) ∧ (p = true → (escL x ++ [34]).head? ≠ some 32)
  | [], p, h => by
    refine ⟨⟨fun _ => head_low 34 [] (.inl rfl), fun e => absurd e (by decide), trivial⟩, fun hp => ?_⟩
    simp [NF] at h
    rw [hp] at h; cases h
  | c :: t, p, h => by
    rcases h with ⟨rfl, hp, h⟩ | ⟨hb, hs, h⟩
    · have ih := SP_esc t true h
      refine ⟨?_, fun e => by rw [hp] at e; cases e⟩
      simp only [escL, esc32, List.cons_append, List.nil_append]
      exact ⟨fun e => absurd rfl e, fun _ => ih.2 rfl, ih.1⟩
    · have ih := (SP_esc t false h).1
      by_cases hc : c.toNat = 34 ∨ c.toNat = 92
      · simp only [escL, esc, if_pos hc, List.cons_append, List.nil_append]
        refine ⟨⟨fun _ => head_low 92 _ (.inr rfl), fun e => absurd e (by decide), fun _ => head_low c _ hc, fun e => absurd e hb, ih⟩, fun _ => by simp⟩
      · simp only [escL, esc, if_neg hc, List.cons_append, List.nil_append]
        refine ⟨⟨fun _ => head_alike hs (fun q hq hp => esc_high q t hq hp), fun e => absurd e hb, ih⟩, fun _ => ?_⟩
        simpa using hb

theorem SP_quote (l : List UInt8) : SP (quoteL l) := by
  unfold quoteL
  rw [List.cons_append]
  refine ⟨fun _ => head_low 34 _ (.inl rfl), fun e => absurd e (by decide), ?_⟩
  rcases J_NF l with e | h
  · rw [e]
    exact ⟨fun _ => head_low 34 [] (.inl rfl), fun e => absurd e (by decide), trivial⟩
  · exact (SP_esc _ _ h).1

theorem last_NF : ∀ (x : List UInt8) (p : Bool), NF p x → x ≠ [] → ∃ pre y, x = pre ++ [y] ∧ y ≠ 32
  | [], _, _, hne => absurd rfl hne
  | [b], p, h, _ => by
    rcases h with ⟨_, _, h⟩ | ⟨hb, _, _⟩
    · simp [NF] at h
    · exact ⟨[], b, rfl, hb⟩
  | b :: c :: t, p, h, _ => by
    have : ∃ q, NF q (c :: t) := by
      rcases h with ⟨_, _, h⟩ | ⟨_, _, h⟩
      · exact ⟨_, h⟩
      · exact ⟨_, h⟩
    obtain ⟨q, hq⟩ := this
    obtain ⟨pre, y, e, hy⟩ := last_NF (c :: t) q hq (by simp)
    exact ⟨b :: pre, y, by rw [e]; rfl, hy⟩

theorem esc_last (y : UInt8) : ∃ e, esc y = e ++ [y] := by
  unfold esc
  split
  · exact ⟨[92], rfl⟩
  · exact ⟨[], rfl⟩

/-- The quoted text: a first byte behind the quote, and a last one before the quote, that are no blanks. -/
theorem quote_ends (l : List UInt8) : ∃ pre y, quoteL l = pre ++ [y] ++ [34] ∧ y ≠ 32 ∧ 1 ≤ (pre ++ [y]).length ∧ (quoteL l).drop 1 ≠ [] ∧ ((quoteL l).drop 1).head? ≠ some 32 := by
  rcases J_NF l with e | h
  · refine ⟨[], 34, ?_, by decide, by simp, ?_, ?_⟩ <;> simp [quoteL, e, escL]
  · have hne : J l ≠ [] := by intro e; rw [e] at h; simp [NF] at h
    obtain ⟨pre, y, e, hy⟩ := last_NF _ _ h hne
    obtain ⟨ee, hee⟩ := esc_last y
    refine ⟨34 :: escL pre ++ ee, y, ?_, hy, by simp, by simp [quoteL], ?_⟩
    · unfold quoteL
      rw [e, escL_append, escL_one, hee]
      simp
    · have := (SP_esc _ _ h).2 rfl
      simpa [quoteL] using this
end Plain
end Go.Proofs.Qxb6600704aDoor
