import Derived.Test.Qxb6600704aDoorMq
import Derived.Test.Qxb6600704aDoorNf
namespace Go.Proofs.Qxb6600704aDoor
open Go.RowKit Plain

/-- At byte k of the quoted text: what is read, what is still to come. -/
def UInv (s : ByteArray) (x : List UInt8) (k : Nat) (out r : List UInt8) : Prop := s.data.toList.drop k = escL r ++ [34] ∧ out ++ r = x

theorem drop_cons {s : ByteArray} {k : Nat} {a : UInt8} {t : List UInt8} (h : s.data.toList.drop k = a :: t) : ∃ hk : k < s.size, s[k] = a ∧ s.data.toList.drop (k + 1) = t := by
  have hk : k < s.size := by
    have := congrArg List.length h
    rw [List.length_drop, len_byte] at this
    simp at this
    omega
  rw [drop_at s k hk] at h
  simp only [List.cons.injEq] at h
  exact ⟨hk, h.1, h.2⟩
theorem drop_size {s : ByteArray} {k : Nat} {t : List UInt8} (h : s.data.toList.drop k = t) (ht : 0 < t.length) : s.size = k + t.length := by
  have := congrArg List.length h
  rw [List.length_drop, len_byte] at this
  omega

set_option maxHeartbeats 4000000 in
set_option maxRecDepth 100000 in
theorem unq14 (s : ByteArray) (x : List UInt8) (w : World) (m : Nat) (hs : s.size = m + 1) (hm1 : 1 ≤ m) (hmb : m ≤ 100000000) (HQ : Hid (s.data.toList = 34 :: (escL x ++ [34]))) :
    Calls Tryd.prog 14 #[.string s] w fun e w' => e = .returned (.tuple #[.string ⟨x.toArray⟩, .bool true]) ∧ Hid (Below w.heap.size w w') := by
  have hm : (s.size : Int) - 1 = (m : Int) := by omega
  have hd0 : s.data.toList.drop 0 = 34 :: (escL x ++ [34]) := HQ.out
  obtain ⟨hk0, e0, d1⟩ := drop_cons hd0
  have hb0 : s[0].toNat = 34 := by rw [e0]; rfl
  have hml : m < s.size := by omega
  have hbl : s[m].toNat = 34 := by
    have h1 := drop_at s m hml
    have h2 : s.data.toList.drop m = [34] := by
      have hl := len_byte s
      rw [HQ.out] at hl ⊢
      simp only [List.length_cons, List.length_append, List.length_nil] at hl
      have : m = (34 :: escL x).length := by simp; omega
      rw [this, ← List.cons_append, List.drop_left]
    rw [h2] at h1
    have : s[m] = 34 := by simpa using (List.cons.inj h1).1.symm
    rw [this]; rfl
  have HU0 : Hid (UInv s x 1 [] x) := ⟨d1, rfl⟩
  obtain ⟨R, hR⟩ : ∃ R : ByteArray, ⟨x.toArray⟩ = R := ⟨_, rfl⟩
  have HR : Hid (⟨x.toArray⟩ = R) := hR
  rw [hR]
  clear hd0 e0 d1 hR
  obtain ⟨i0, hi, hz0, hz1, hz2⟩ := info_parts Tryd.info5
  have SB : Hid (i0.bytes * (m + 1) ≤ 281474976710656 ∧ m + 1 ≤ maxLen) := ⟨by rw [hz2]; omega, by unfold maxLen; omega⟩
  go_enter Tryd.func14, Tryd.ntmps14
  go_wp2_with (at_make; refine wpList_make_own _ rfl _ _ 27 rfl w.heap.size 5 i0 (.int .u8 0) 1 Tryd.underlying27 hi hz0 hz1 .i64 .i64 _ (m + 1) rfl rfl (by omega) SB.out.1 SB.out.2 (Nat.le_refl _) ?_)
  intro w1 hown hgrow
  have X0 : Hid (Own w [] (.slice (some ⟨w.heap.size, 0, none⟩) 0 (m + 1)) w1) := ⟨hown, (Below.refl _ _).grown hgrow (Nat.le_refl _) (by simp)⟩
  clear hown hgrow
  go_wp2
  go_loopw [4, 5] (fun v i wr => ∃ (k : Nat) (out r : List UInt8), k ≤ m ∧ i = .int .i64 k ∧ Hid (Own w out v wr) ∧ Hid (UInv s x k out r)) (fun _ i _ => m - (intOf i).toNat)
  case atStart => exact ⟨1, [], x, hm1, rfl, X0, HU0⟩
  case round =>
    obtain ⟨k, out, r, hk, rfl, HO, HU⟩ := hrel
    cases r with
    | nil =>
      have hkm : k = m := by
        have h1 := HU.out.1
        simp only [escL, List.nil_append] at h1
        have := drop_size h1 (by simp)
        simp at this
        omega
      subst hkm
      have hcv : (convert 27 9 u4).run Tryd.prog wr = .ok (.string R) wr := by
        have h1 := HU.out.2
        rw [List.append_nil] at h1
        have := conv_own HO.out.1
        rw [h1, HR.out] at this
        exact this
      have HZ : Hid (Below w.heap.size w wr) := HO.out.2
      go_wp2
      go_ret2
      exact ⟨rfl, HZ⟩
    | cons c r =>
      have hlen : out.length ≤ x.length ∧ x.length ≤ s.size := by
        have h1 := congrArg List.length HU.out.2
        have h2 := congrArg List.length HQ.out
        have h3 := (escL_len x).1
        rw [len_byte] at h2
        simp at h1 h2
        omega
      have HL : Hid (out.length + 1 ≤ 140737488355328) := by show _ ≤ _; omega
      clear hlen
      have hd := HU.out.1
      by_cases hc : c.toNat = 34 ∨ c.toNat = 92
      · simp only [escL, esc, if_pos hc, List.cons_append, List.nil_append] at hd
        obtain ⟨hk1, e1, d1⟩ := drop_cons hd
        obtain ⟨hk2, e2, d2⟩ := drop_cons d1
        have hb1 : s[k].toNat = 92 := by rw [e1]; rfl
        have hkm : k + 1 < m := by
          have := drop_size d2 (by simp)
          simp at this
          omega
        have hkm0 : k < m := by omega
        have hge : ¬ ((k : Int) + 1 ≥ (m : Int)) := by omega
        have HU2 : Hid (UInv s x (k + 2) (out ++ [c]) r) := ⟨d2, by have := HU.out.2; simpa using this⟩
        have HC : Hid ((c.toNat : Int) = (s[k + 1].toNat : Int)) := by show _ = _; rw [e2]
        clear hd e1 d1 e2 d2 hc
        go_wp2_with (at_builtin; refine wpList_append_z rfl _ _ rfl w.heap.size u4 out c _ HC.out rfl HO.out.1 rfl HL.out HO.out.2.size ?_)
        intro v5 w5 o5 b5
        have Y5 : Hid (Own w (out ++ [c]) v5 w5) := HO.out.next (by simpa using o5) b5
        clear o5 b5
        go_wp2
        go_roundw
        case rel => exact ⟨k + 2, _, r, by omega, by go_num, Y5, HU2⟩
        case measure => simp [intOf]; omega
      · simp only [escL, esc, if_neg hc, List.cons_append, List.nil_append] at hd
        obtain ⟨hk1, e1, d1⟩ := drop_cons hd
        have hkm : k < m := by
          have := drop_size d1 (by simp)
          simp at this
          omega
        have HU2 : Hid (UInv s x (k + 1) (out ++ [c]) r) := ⟨d1, by have := HU.out.2; simpa using this⟩
        obtain ⟨b, hb⟩ : ∃ b, s[k].toNat = b := ⟨_, rfl⟩
        have HC : Hid ((c.toNat : Int) = (b : Int)) := by show _ = _; rw [← hb, e1]
        have he1 : ((b : Int) == 34) = false := by rw [beq_eq_false_iff_ne]; have := HC.out; omega
        have he2 : ((b : Int) == 92) = false := by rw [beq_eq_false_iff_ne]; have := HC.out; omega
        clear hd e1 d1 hc
        go_wp2_with (at_builtin; refine wpList_append_z rfl _ _ rfl w.heap.size u4 out c _ HC.out rfl HO.out.1 rfl HL.out HO.out.2.size ?_)
        intro v5 w5 o5 b5
        have Y5 : Hid (Own w (out ++ [c]) v5 w5) := HO.out.next (by simpa using o5) b5
        clear o5 b5
        go_wp2
        go_roundw
        case rel => exact ⟨k + 1, _, r, by omega, by go_num, Y5, HU2⟩
        case measure => simp [intOf]; omega
end Go.Proofs.Qxb6600704aDoor
