import Derived.Test.Qxb6600704aDoorPlain
namespace Go.Proofs.Qxb6600704aDoor
namespace Plain
open Go.Lib

theorem headSpace_zero {l : List UInt8} (h : ∀ q ∈ spaceSeqs, ¬ q <+: l) : headSpace l = 0 := by
  unfold headSpace
  have : spaceSeqs.find? (·.isPrefixOf l) = none := List.find?_eq_none.2 fun q hq => by simpa using h q hq
  rw [this]; rfl
theorem seqs_nonempty : ∀ q ∈ spaceSeqs, 0 < q.length := by decide
theorem zero_of_headSpace {l : List UInt8} (h : headSpace l = 0) : ∀ q ∈ spaceSeqs, ¬ q <+: l := by
  intro q hq
  unfold headSpace at h
  cases e : spaceSeqs.find? (·.isPrefixOf l) with
  | none => simpa using List.find?_eq_none.1 e q hq
  | some q' =>
    rw [e] at h
    have h1 := seqs_nonempty q' (List.mem_of_find?_eq_some e)
    simp at h
    simp [h] at h1
theorem of8 {b : UInt8} {n : Nat} (h : b.toNat = n) (hn : n < 256) : b = UInt8.ofNat n :=
  UInt8.toNat_inj.1 (by rw [h]; simp [UInt8.toNat_ofNat']; omega)

/-- White space by its bytes, as the law's own text asks. -/
def ws (c d e : Nat) (n : Nat) : Nat :=
  if c = 32 ∨ (9 ≤ c ∧ c ≤ 13) then 1
  else if c = 0xC2 ∧ 1 < n ∧ (d = 0x85 ∨ d = 0xA0) then 2
  else if 2 < n ∧ ((c = 0xE1 ∧ d = 0x9A ∧ e = 0x80) ∨ (c = 0xE2 ∧ d = 0x80 ∧ ((0x80 ≤ e ∧ e ≤ 0x8A) ∨ e = 0xA8 ∨ e = 0xA9 ∨ e = 0xAF)) ∨ (c = 0xE2 ∧ d = 0x81 ∧ e = 0x9F) ∨ (c = 0xE3 ∧ d = 0x80 ∧ e = 0x80)) then 3
  else 0

theorem ws1 (b : UInt8) (t : List UInt8) (h : b.toNat = 32 ∨ (9 ≤ b.toNat ∧ b.toNat ≤ 13)) : headSpace (b :: t) = 1 := by
  rcases (by omega : b.toNat = 9 ∨ b.toNat = 10 ∨ b.toNat = 11 ∨ b.toNat = 12 ∨ b.toNat = 13 ∨ b.toNat = 32) with h | h | h | h | h | h <;> (obtain rfl := of8 h (by decide); rfl)
theorem ws2 (b c : UInt8) (t : List UInt8) (h : b.toNat = 0xC2 ∧ (c.toNat = 0x85 ∨ c.toNat = 0xA0)) : headSpace (b :: c :: t) = 2 := by
  obtain ⟨hb, hc | hc⟩ := h <;> (obtain rfl := of8 hb (by decide); obtain rfl := of8 hc (by decide); rfl)
set_option maxHeartbeats 1000000 in
theorem ws3 (b c d : UInt8) (t : List UInt8) (h : (b.toNat = 0xE1 ∧ c.toNat = 0x9A ∧ d.toNat = 0x80) ∨ (b.toNat = 0xE2 ∧ c.toNat = 0x80 ∧ ((0x80 ≤ d.toNat ∧ d.toNat ≤ 0x8A) ∨ d.toNat = 0xA8 ∨ d.toNat = 0xA9 ∨ d.toNat = 0xAF)) ∨ (b.toNat = 0xE2 ∧ c.toNat = 0x81 ∧ d.toNat = 0x9F) ∨ (b.toNat = 0xE3 ∧ c.toNat = 0x80 ∧ d.toNat = 0x80)) : headSpace (b :: c :: d :: t) = 3 := by
  rcases h with ⟨hb, hc, hd⟩ | ⟨hb, hc, hd⟩ | ⟨hb, hc, hd⟩ | ⟨hb, hc, hd⟩
  · obtain rfl := of8 hb (by decide); obtain rfl := of8 hc (by decide); obtain rfl := of8 hd (by decide); rfl
  · rcases (by omega : d.toNat = 0x80 ∨ d.toNat = 0x81 ∨ d.toNat = 0x82 ∨ d.toNat = 0x83 ∨ d.toNat = 0x84 ∨ d.toNat = 0x85 ∨ d.toNat = 0x86 ∨ d.toNat = 0x87 ∨ d.toNat = 0x88 ∨ d.toNat = 0x89 ∨ d.toNat = 0x8A ∨ d.toNat = 0xA8 ∨ d.toNat = 0xA9 ∨ d.toNat = 0xAF) with h | h | h | h | h | h | h | h | h | h | h | h | h | h <;> (obtain rfl := of8 hb (by decide); obtain rfl := of8 hc (by decide); obtain rfl := of8 h (by decide); rfl)
  · obtain rfl := of8 hb (by decide); obtain rfl := of8 hc (by decide); obtain rfl := of8 hd (by decide); rfl
  · obtain rfl := of8 hb (by decide); obtain rfl := of8 hc (by decide); obtain rfl := of8 hd (by decide); rfl

theorem wz0 (b : UInt8) (h1 : ¬ (b.toNat = 32 ∨ (9 ≤ b.toNat ∧ b.toNat ≤ 13))) : headSpace [b] = 0 := by
  apply headSpace_zero
  simp [spaceSeqs, ← UInt8.toNat_inj]
  omega
set_option maxHeartbeats 2000000 in
theorem wz1 (b c : UInt8) (h1 : ¬ (b.toNat = 32 ∨ (9 ≤ b.toNat ∧ b.toNat ≤ 13))) (h2 : ¬ (b.toNat = 0xC2 ∧ (c.toNat = 0x85 ∨ c.toNat = 0xA0))) : headSpace [b, c] = 0 := by
  apply headSpace_zero
  simp [spaceSeqs, ← UInt8.toNat_inj]
  omega
set_option maxHeartbeats 2000000 in
theorem wz2 (b c d : UInt8) (t : List UInt8) (h1 : ¬ (b.toNat = 32 ∨ (9 ≤ b.toNat ∧ b.toNat ≤ 13))) (h2 : ¬ (b.toNat = 0xC2 ∧ (c.toNat = 0x85 ∨ c.toNat = 0xA0)))
    (h3 : ¬ ((b.toNat = 0xE1 ∧ c.toNat = 0x9A ∧ d.toNat = 0x80) ∨ (b.toNat = 0xE2 ∧ c.toNat = 0x80 ∧ ((0x80 ≤ d.toNat ∧ d.toNat ≤ 0x8A) ∨ d.toNat = 0xA8 ∨ d.toNat = 0xA9 ∨ d.toNat = 0xAF)) ∨ (b.toNat = 0xE2 ∧ c.toNat = 0x81 ∧ d.toNat = 0x9F) ∨ (b.toNat = 0xE3 ∧ c.toNat = 0x80 ∧ d.toNat = 0x80))) : headSpace (b :: c :: d :: t) = 0 := by
  apply headSpace_zero
  simp [spaceSeqs, ← UInt8.toNat_inj]
  omega

theorem wsL (b : UInt8) (t : List UInt8) : headSpace (b :: t) = ws b.toNat (t.getD 0 0).toNat (t.getD 1 0).toNat (t.length + 1) := by
  by_cases h1 : b.toNat = 32 ∨ (9 ≤ b.toNat ∧ b.toNat ≤ 13)
  · rw [ws, if_pos h1]; exact ws1 b t h1
  rw [ws, if_neg h1]
  cases t with
  | nil =>
    rw [if_neg (fun h => absurd h.2.1 (by simp)), if_neg (fun h => absurd h.1 (by simp))]
    exact wz0 b h1
  | cons c t =>
    rw [List.getD_cons_zero]
    by_cases h2 : b.toNat = 0xC2 ∧ (c.toNat = 0x85 ∨ c.toNat = 0xA0)
    · rw [if_pos ⟨h2.1, by simp, h2.2⟩]; exact ws2 b c t h2
    rw [if_neg (fun h => h2 ⟨h.1, h.2.2⟩)]
    cases t with
    | nil =>
      rw [if_neg (fun h => absurd h.1 (by simp))]
      exact wz1 b c h1 h2
    | cons d t =>
      rw [List.getD_cons_succ, List.getD_cons_zero]
      by_cases h3 : (b.toNat = 0xE1 ∧ c.toNat = 0x9A ∧ d.toNat = 0x80) ∨ (b.toNat = 0xE2 ∧ c.toNat = 0x80 ∧ ((0x80 ≤ d.toNat ∧ d.toNat ≤ 0x8A) ∨ d.toNat = 0xA8 ∨ d.toNat = 0xA9 ∨ d.toNat = 0xAF)) ∨ (b.toNat = 0xE2 ∧ c.toNat = 0x81 ∧ d.toNat = 0x9F) ∨ (b.toNat = 0xE3 ∧ c.toNat = 0x80 ∧ d.toNat = 0x80)
      · rw [if_pos ⟨by simp, h3⟩]; exact ws3 b c d t h3
      · rw [if_neg (fun h => h3 h.2)]; exact wz2 b c d t h1 h2 h3
end Plain
end Go.Proofs.Qxb6600704aDoor
