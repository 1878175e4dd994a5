import Derived.Test.Qxb6600704aDoorModel
namespace Go.Proofs.Qxb6600704aDoor
open Go.RowKit Plain

theorem headSpace_le (l : List UInt8) (hne : l ≠ []) : Lib.headSpace l ≤ l.length := by
  rw [Lib.headSpace_eq l hne]
  split
  · rename_i h; exact (Lib.space_has_seq l hne h).2
  · omega

/-- The scan at byte k: what is written, and what is still to come. -/
def MInv (s : List UInt8) (M acc : List UInt8) (k : Nat) (pb sb : Bool) : Prop := ∃ f, (s.drop k).length ≤ f ∧ acc ++ escL (T f pb sb (s.drop k)) = M ∧ acc.length ≤ 1 + 3 * k

theorem minv_start (s : List UInt8) : MInv s (34 :: escL (J s)) [34] 0 false false := ⟨s.length + 1, by simp, by simp [J], by simp⟩
theorem minv_space {s M acc : List UInt8} {k r : Nat} {pb sb : Bool} (h : MInv s M acc k pb sb) (hk : k < s.length) (hr : Lib.headSpace (s.drop k) = r) (h0 : 0 < r) : MInv s M acc (k + r) true sb ∧ k + r ≤ s.length := by
  obtain ⟨f, hf, he, hl⟩ := h
  have hc := List.drop_eq_getElem_cons hk
  have hle := headSpace_le (s.drop k) (by simp; exact hk)
  rw [hr] at hle
  rw [List.length_drop] at hle hf
  obtain ⟨g, rfl⟩ : ∃ g, f = g + 1 := ⟨f - 1, by omega⟩
  refine ⟨⟨g, by rw [List.length_drop]; omega, ?_, by omega⟩, by omega⟩
  rw [← he]
  rw [hc] at hr
  conv => rhs; rw [hc]
  simp only [T, hr]
  rw [if_neg (by omega), ← hc, List.drop_drop]
theorem minv_byte {s M acc : List UInt8} {k : Nat} {pb sb : Bool} (h : MInv s M acc k pb sb) (hk : k < s.length) (hr : Lib.headSpace (s.drop k) = 0) : MInv s M ((if pb && sb then acc ++ [32] else acc) ++ esc s[k]) (k + 1) false true := by
  obtain ⟨f, hf, he, hl⟩ := h
  have hc := List.drop_eq_getElem_cons hk
  rw [List.length_drop] at hf
  obtain ⟨g, rfl⟩ : ∃ g, f = g + 1 := ⟨f - 1, by omega⟩
  have he2 := esc_len s[k]
  refine ⟨g, by rw [List.length_drop]; omega, ?_, ?_⟩
  · rw [← he]
    rw [hc] at hr
    conv => rhs; rw [hc]
    simp only [T, hr, if_true]
    split <;> simp [escL, esc32]
  · split <;> simp only [List.length_append, List.length_cons, List.length_nil] <;> omega
theorem minv_end {s M acc : List UInt8} {k : Nat} {pb sb : Bool} (h : MInv s M acc k pb sb) (hk : s.length ≤ k) : acc = M := by
  obtain ⟨f, _, he, _⟩ := h
  rw [List.drop_of_length_le hk, T_nil] at he
  simpa [escL] using he

theorem wpList_append_z {w0 : World} {ops : Array Oper} {rest : List Oper} {o : Oper} {a : Act} {Q : Exit → Act → World → Prop} (hgd : o.guard = none) (s x : Operand)
    (ho : o.op = .call { callee := .builtin .append, args := #[s, x], argTypes := #[27, 27] }) (base : Nat) (v : Value) (l : List UInt8) (c : UInt8) (z : Int) (hz : (c.toNat : Int) = z) (hs : a.eval s = v) (hown : w0.ownsRow base 5 1 v l.length (cellsU l))
    (hx : a.eval x = .slice (some ⟨w0.heap.size, 0, none⟩) 1 1) (hlen : l.length + 1 ≤ 140737488355328) (hbase : base ≤ w0.heap.size)
    (h : ∀ v' w', w'.ownsRow base 5 1 v' (l ++ [c]).length (cellsU (l ++ [c])) → Below base w0 w' → wpList Tryd.prog ops Q rest (a.put o.dst v') w') :
    wpList Tryd.prog ops Q (o :: rest) a (w0.alloc (.cells #[.int .u8 z] 5)) := by
  subst hz
  exact wpList_append_byte hgd s x ho base v l c hs hown hx hlen hbase h

/-- A slice of bytes of the call's own. -/
def Own (w : World) (acc : List UInt8) (v : Value) (wr : World) : Prop := wr.ownsRow w.heap.size 5 1 v acc.length (cellsU acc) ∧ Below w.heap.size w wr
theorem Own.next {w wr w2 : World} {acc : List UInt8} {v v' : Value} {c : UInt8} (h : Own w acc v wr) (h1 : w2.ownsRow w.heap.size 5 1 v' (acc ++ [c]).length (cellsU (acc ++ [c]))) (h2 : Below w.heap.size wr w2) : Own w (acc ++ [c]) v' w2 := ⟨h1, h.2.trans h2⟩
theorem len_byte (s : ByteArray) : s.data.toList.length = s.size := by simp

set_option maxHeartbeats 4000000 in
set_option maxRecDepth 100000 in
theorem mq11 (s : ByteArray) (w : World) (hs : s.size ≤ 1048576) :
    Calls Tryd.prog 11 #[.string s] w fun e w' => e = .returned (.string ⟨(quoteL s.data.toList).toArray⟩) ∧ Hid (Below w.heap.size w w') := by
  obtain ⟨M, hM⟩ : ∃ M, 34 :: escL (J s.data.toList) = M := ⟨_, rfl⟩
  have HM0 : Hid (MInv s.data.toList M [34] 0 false false) := by rw [← hM]; exact minv_start _
  obtain ⟨R, hR⟩ : ∃ R : ByteArray, ⟨(quoteL s.data.toList).toArray⟩ = R := ⟨_, rfl⟩
  have HR : Hid (⟨(M ++ [34]).toArray⟩ = R) := by
    show _ = _
    rw [← hR, ← hM]; rfl
  have HML : Hid (M.length + 1 ≤ 140737488355328) := by
    have h1 := quoteL_len s.data.toList
    have h2 : (quoteL s.data.toList).length = M.length + 1 := by rw [← hM]; simp [quoteL]
    have h3 := len_byte s
    show _ ≤ _
    omega
  rw [hR]
  clear hM hR
  obtain ⟨i0, hi, hz0, hz1, hz2⟩ := info_parts Tryd.info5
  have SB : Hid (i0.bytes * (2 * s.size + 2) ≤ 281474976710656 ∧ 2 * s.size + 2 ≤ maxLen) := ⟨by rw [hz2]; omega, by unfold maxLen; omega⟩
  go_enter Tryd.func11, Tryd.ntmps11
  go_wp2_with (at_make; refine wpList_make_own _ rfl _ _ 27 rfl w.heap.size 5 i0 (.int .u8 0) 1 Tryd.underlying27 hi hz0 hz1 .i64 .i64 _ (2 * s.size + 2) rfl rfl (by omega) SB.out.1 SB.out.2 (Nat.le_refl _) ?_)
  intro w1 hown hgrow
  have X0 : Hid (Own w [] (.slice (some ⟨w.heap.size, 0, none⟩) 0 (2 * s.size + 2)) w1) := ⟨hown, (Below.refl _ _).grown hgrow (Nat.le_refl _) (by simp)⟩
  clear hown hgrow
  go_wp2_with (at_builtin; refine wpList_append_z rfl _ _ rfl w.heap.size (.slice (some ⟨w.heap.size, 0, none⟩) 0 (2 * s.size + 2)) [] 34 34 rfl rfl X0.out.1 rfl (by simp) X0.out.2.size ?_)
  intro v1 w2 o2 b2
  have X1 : Hid (Own w [34] v1 w2) := X0.out.next (by simpa using o2) b2
  clear o2 b2
  go_wp2
  go_loopw [3, 4, 5, 6] (fun v p st i wr => ∃ (k : Nat) (pb sb : Bool) (acc : List UInt8), k ≤ s.size ∧ i = .int .i64 k ∧ p = .bool pb ∧ st = .bool sb ∧ Hid (Own w acc v wr) ∧ Hid (MInv s.data.toList M acc k pb sb)) (fun _ _ _ i _ => s.size - (intOf i).toNat)
  case atStart => exact ⟨0, false, false, [34], Nat.zero_le _, rfl, rfl, rfl, X1, HM0⟩
  case round =>
    obtain ⟨k, pb, sb, acc, hk, rfl, rfl, rfl, HO, HI⟩ := hrel
    by_cases hks : k < s.size
    · have hkl : k < s.data.toList.length := by rw [len_byte]; exact hks
      obtain ⟨r, hr⟩ : ∃ r, Lib.headSpace (s.data.toList.drop k) = r := ⟨_, rfl⟩
      have HW : Hid _ := hr
      by_cases h0 : 0 < r
      · have HS := minv_space HI.out hkl hr h0
        have hkr : k + r ≤ s.size := by rw [← len_byte s]; exact HS.2
        have HS1 : Hid _ := HS.1
        clear HS hr hkl
        go_wp2_with (go_at_call 13; refine (ws13 s k _ (by omega) hks r HW).mono ?_; rintro e w' ⟨rfl, rfl⟩)
        go_roundw
        case rel => exact ⟨k + r, true, sb, acc, hkr, by go_num, rfl, rfl, HO, HS1⟩
        case measure => simp [intOf]; omega
      · obtain rfl : r = 0 := by omega
        have HS : Hid (MInv s.data.toList M ((if pb && sb then acc ++ [32] else acc) ++ esc (s[k]'hks)) (k + 1) false true) := minv_byte HI.out hkl hr
        have HL : Hid (acc.length + 3 ≤ 140737488355328) := by
          obtain ⟨f, _, _, h3⟩ := HI.out
          show _ ≤ _
          omega
        clear hr hkl h0
        by_cases he : s[k].toNat = 34 ∨ s[k].toNat = 92
        · have HE : Hid (esc s[k] = [92] ++ [s[k]]) := by show _ = _; unfold esc; rw [if_pos he]; rfl
          obtain ⟨c, hc⟩ : ∃ c, s[k].toNat = c := ⟨_, rfl⟩
          have HC : Hid ((s[k].toNat : Int) = (c : Int)) := by show _ = _; rw [hc]
          rw [hc] at he
          rcases he with rfl | rfl
          · cases pb with
            | false =>
              go_wp2_with (first | (go_at_call 13; refine (ws13 s k _ (by omega) hks 0 HW).mono ?_; rintro e w' ⟨rfl, rfl⟩) | (at_builtin; refine wpList_append_z rfl _ _ rfl w.heap.size u3 acc 92 92 rfl rfl HO.out.1 rfl (by have := HL.out; simp; omega) HO.out.2.size ?_))
              intro v6 w6 o6 b6
              have Y6 : Hid (Own w (acc ++ [92]) v6 w6) := HO.out.next (by simpa using o6) b6
              clear o6 b6
              go_wp2_with (first | (go_at_call 13; refine (ws13 s k _ (by omega) hks 0 HW).mono ?_; rintro e w' ⟨rfl, rfl⟩) | (at_builtin; refine wpList_append_z rfl _ _ rfl w.heap.size v6 (acc ++ [92]) s[k] _ HC.out rfl Y6.out.1 rfl (by have := HL.out; simp; omega) Y6.out.2.size ?_))
              intro v7 w7 o7 b7
              have Y7 : Hid (Own w ((acc ++ [92]) ++ [s[k]]) v7 w7) := Y6.out.next (by simpa using o7) b7
              clear o7 b7
              have Z : Hid (MInv s.data.toList M ((acc ++ [92]) ++ [s[k]]) (k + 1) false true) := by
                show MInv s.data.toList M ((acc ++ [92]) ++ [s[k]]) (k + 1) false true
                have h := HS.out
                rw [HE.out] at h
                simpa using h
              go_wp2
              go_roundw
              case rel => exact ⟨k + 1, false, true, _, by omega, by go_num, rfl, rfl, Y7, Z⟩
              case measure => simp [intOf]; omega
            | true =>
              cases sb with
              | false =>
                go_wp2_with (first | (go_at_call 13; refine (ws13 s k _ (by omega) hks 0 HW).mono ?_; rintro e w' ⟨rfl, rfl⟩) | (at_builtin; refine wpList_append_z rfl _ _ rfl w.heap.size u3 acc 92 92 rfl rfl HO.out.1 rfl (by have := HL.out; simp; omega) HO.out.2.size ?_))
                intro v6 w6 o6 b6
                have Y6 : Hid (Own w (acc ++ [92]) v6 w6) := HO.out.next (by simpa using o6) b6
                clear o6 b6
                go_wp2_with (first | (go_at_call 13; refine (ws13 s k _ (by omega) hks 0 HW).mono ?_; rintro e w' ⟨rfl, rfl⟩) | (at_builtin; refine wpList_append_z rfl _ _ rfl w.heap.size v6 (acc ++ [92]) s[k] _ HC.out rfl Y6.out.1 rfl (by have := HL.out; simp; omega) Y6.out.2.size ?_))
                intro v7 w7 o7 b7
                have Y7 : Hid (Own w ((acc ++ [92]) ++ [s[k]]) v7 w7) := Y6.out.next (by simpa using o7) b7
                clear o7 b7
                have Z : Hid (MInv s.data.toList M ((acc ++ [92]) ++ [s[k]]) (k + 1) false true) := by
                  show MInv s.data.toList M ((acc ++ [92]) ++ [s[k]]) (k + 1) false true
                  have h := HS.out
                  rw [HE.out] at h
                  simpa using h
                go_wp2
                go_roundw
                case rel => exact ⟨k + 1, false, true, _, by omega, by go_num, rfl, rfl, Y7, Z⟩
                case measure => simp [intOf]; omega
              | true =>
                go_wp2_with (first | (go_at_call 13; refine (ws13 s k _ (by omega) hks 0 HW).mono ?_; rintro e w' ⟨rfl, rfl⟩) | (at_builtin; refine wpList_append_z rfl _ _ rfl w.heap.size u3 acc 32 32 rfl rfl HO.out.1 rfl (by have := HL.out; simp; omega) HO.out.2.size ?_))
                intro v6 w6 o6 b6
                have Y6 : Hid (Own w (acc ++ [32]) v6 w6) := HO.out.next (by simpa using o6) b6
                clear o6 b6
                go_wp2_with (first | (go_at_call 13; refine (ws13 s k _ (by omega) hks 0 HW).mono ?_; rintro e w' ⟨rfl, rfl⟩) | (at_builtin; refine wpList_append_z rfl _ _ rfl w.heap.size v6 (acc ++ [32]) 92 92 rfl rfl Y6.out.1 rfl (by have := HL.out; simp; omega) Y6.out.2.size ?_))
                intro v7 w7 o7 b7
                have Y7 : Hid (Own w ((acc ++ [32]) ++ [92]) v7 w7) := Y6.out.next (by simpa using o7) b7
                clear o7 b7
                go_wp2_with (first | (go_at_call 13; refine (ws13 s k _ (by omega) hks 0 HW).mono ?_; rintro e w' ⟨rfl, rfl⟩) | (at_builtin; refine wpList_append_z rfl _ _ rfl w.heap.size v7 ((acc ++ [32]) ++ [92]) s[k] _ HC.out rfl Y7.out.1 rfl (by have := HL.out; simp; omega) Y7.out.2.size ?_))
                intro v8 w8 o8 b8
                have Y8 : Hid (Own w (((acc ++ [32]) ++ [92]) ++ [s[k]]) v8 w8) := Y7.out.next (by simpa using o8) b8
                clear o8 b8
                have Z : Hid (MInv s.data.toList M (((acc ++ [32]) ++ [92]) ++ [s[k]]) (k + 1) false true) := by
                  show MInv s.data.toList M (((acc ++ [32]) ++ [92]) ++ [s[k]]) (k + 1) false true
                  have h := HS.out
                  rw [HE.out] at h
                  simpa using h
                go_wp2
                go_roundw
                case rel => exact ⟨k + 1, false, true, _, by omega, by go_num, rfl, rfl, Y8, Z⟩
                case measure => simp [intOf]; omega
          · cases pb with
            | false =>
              go_wp2_with (first | (go_at_call 13; refine (ws13 s k _ (by omega) hks 0 HW).mono ?_; rintro e w' ⟨rfl, rfl⟩) | (at_builtin; refine wpList_append_z rfl _ _ rfl w.heap.size u3 acc 92 92 rfl rfl HO.out.1 rfl (by have := HL.out; simp; omega) HO.out.2.size ?_))
              intro v6 w6 o6 b6
              have Y6 : Hid (Own w (acc ++ [92]) v6 w6) := HO.out.next (by simpa using o6) b6
              clear o6 b6
              go_wp2_with (first | (go_at_call 13; refine (ws13 s k _ (by omega) hks 0 HW).mono ?_; rintro e w' ⟨rfl, rfl⟩) | (at_builtin; refine wpList_append_z rfl _ _ rfl w.heap.size v6 (acc ++ [92]) s[k] _ HC.out rfl Y6.out.1 rfl (by have := HL.out; simp; omega) Y6.out.2.size ?_))
              intro v7 w7 o7 b7
              have Y7 : Hid (Own w ((acc ++ [92]) ++ [s[k]]) v7 w7) := Y6.out.next (by simpa using o7) b7
              clear o7 b7
              have Z : Hid (MInv s.data.toList M ((acc ++ [92]) ++ [s[k]]) (k + 1) false true) := by
                show MInv s.data.toList M ((acc ++ [92]) ++ [s[k]]) (k + 1) false true
                have h := HS.out
                rw [HE.out] at h
                simpa using h
              go_wp2
              go_roundw
              case rel => exact ⟨k + 1, false, true, _, by omega, by go_num, rfl, rfl, Y7, Z⟩
              case measure => simp [intOf]; omega
            | true =>
              cases sb with
              | false =>
                go_wp2_with (first | (go_at_call 13; refine (ws13 s k _ (by omega) hks 0 HW).mono ?_; rintro e w' ⟨rfl, rfl⟩) | (at_builtin; refine wpList_append_z rfl _ _ rfl w.heap.size u3 acc 92 92 rfl rfl HO.out.1 rfl (by have := HL.out; simp; omega) HO.out.2.size ?_))
                intro v6 w6 o6 b6
                have Y6 : Hid (Own w (acc ++ [92]) v6 w6) := HO.out.next (by simpa using o6) b6
                clear o6 b6
                go_wp2_with (first | (go_at_call 13; refine (ws13 s k _ (by omega) hks 0 HW).mono ?_; rintro e w' ⟨rfl, rfl⟩) | (at_builtin; refine wpList_append_z rfl _ _ rfl w.heap.size v6 (acc ++ [92]) s[k] _ HC.out rfl Y6.out.1 rfl (by have := HL.out; simp; omega) Y6.out.2.size ?_))
                intro v7 w7 o7 b7
                have Y7 : Hid (Own w ((acc ++ [92]) ++ [s[k]]) v7 w7) := Y6.out.next (by simpa using o7) b7
                clear o7 b7
                have Z : Hid (MInv s.data.toList M ((acc ++ [92]) ++ [s[k]]) (k + 1) false true) := by
                  show MInv s.data.toList M ((acc ++ [92]) ++ [s[k]]) (k + 1) false true
                  have h := HS.out
                  rw [HE.out] at h
                  simpa using h
                go_wp2
                go_roundw
                case rel => exact ⟨k + 1, false, true, _, by omega, by go_num, rfl, rfl, Y7, Z⟩
                case measure => simp [intOf]; omega
              | true =>
                go_wp2_with (first | (go_at_call 13; refine (ws13 s k _ (by omega) hks 0 HW).mono ?_; rintro e w' ⟨rfl, rfl⟩) | (at_builtin; refine wpList_append_z rfl _ _ rfl w.heap.size u3 acc 32 32 rfl rfl HO.out.1 rfl (by have := HL.out; simp; omega) HO.out.2.size ?_))
                intro v6 w6 o6 b6
                have Y6 : Hid (Own w (acc ++ [32]) v6 w6) := HO.out.next (by simpa using o6) b6
                clear o6 b6
                go_wp2_with (first | (go_at_call 13; refine (ws13 s k _ (by omega) hks 0 HW).mono ?_; rintro e w' ⟨rfl, rfl⟩) | (at_builtin; refine wpList_append_z rfl _ _ rfl w.heap.size v6 (acc ++ [32]) 92 92 rfl rfl Y6.out.1 rfl (by have := HL.out; simp; omega) Y6.out.2.size ?_))
                intro v7 w7 o7 b7
                have Y7 : Hid (Own w ((acc ++ [32]) ++ [92]) v7 w7) := Y6.out.next (by simpa using o7) b7
                clear o7 b7
                go_wp2_with (first | (go_at_call 13; refine (ws13 s k _ (by omega) hks 0 HW).mono ?_; rintro e w' ⟨rfl, rfl⟩) | (at_builtin; refine wpList_append_z rfl _ _ rfl w.heap.size v7 ((acc ++ [32]) ++ [92]) s[k] _ HC.out rfl Y7.out.1 rfl (by have := HL.out; simp; omega) Y7.out.2.size ?_))
                intro v8 w8 o8 b8
                have Y8 : Hid (Own w (((acc ++ [32]) ++ [92]) ++ [s[k]]) v8 w8) := Y7.out.next (by simpa using o8) b8
                clear o8 b8
                have Z : Hid (MInv s.data.toList M (((acc ++ [32]) ++ [92]) ++ [s[k]]) (k + 1) false true) := by
                  show MInv s.data.toList M (((acc ++ [32]) ++ [92]) ++ [s[k]]) (k + 1) false true
                  have h := HS.out
                  rw [HE.out] at h
                  simpa using h
                go_wp2
                go_roundw
                case rel => exact ⟨k + 1, false, true, _, by omega, by go_num, rfl, rfl, Y8, Z⟩
                case measure => simp [intOf]; omega
        · have HE : Hid (esc s[k] = [s[k]]) := by show _ = _; unfold esc; rw [if_neg he]
          obtain ⟨c, hc⟩ : ∃ c, s[k].toNat = c := ⟨_, rfl⟩
          have HC : Hid ((s[k].toNat : Int) = (c : Int)) := by show _ = _; rw [hc]
          rw [hc] at he
          have he1 : ((c : Int) == 34) = false := by rw [beq_eq_false_iff_ne]; omega
          have he2 : ((c : Int) == 92) = false := by rw [beq_eq_false_iff_ne]; omega
          clear he
          cases pb with
          | false =>
            go_wp2_with (first | (go_at_call 13; refine (ws13 s k _ (by omega) hks 0 HW).mono ?_; rintro e w' ⟨rfl, rfl⟩) | (at_builtin; refine wpList_append_z rfl _ _ rfl w.heap.size u3 acc s[k] _ HC.out rfl HO.out.1 rfl (by have := HL.out; simp; omega) HO.out.2.size ?_))
            intro v6 w6 o6 b6
            have Y6 : Hid (Own w (acc ++ [s[k]]) v6 w6) := HO.out.next (by simpa using o6) b6
            clear o6 b6
            have Z : Hid (MInv s.data.toList M (acc ++ [s[k]]) (k + 1) false true) := by
              show MInv s.data.toList M (acc ++ [s[k]]) (k + 1) false true
              have h := HS.out
              rw [HE.out] at h
              simpa using h
            go_wp2
            go_roundw
            case rel => exact ⟨k + 1, false, true, _, by omega, by go_num, rfl, rfl, Y6, Z⟩
            case measure => simp [intOf]; omega
          | true =>
            cases sb with
            | false =>
              go_wp2_with (first | (go_at_call 13; refine (ws13 s k _ (by omega) hks 0 HW).mono ?_; rintro e w' ⟨rfl, rfl⟩) | (at_builtin; refine wpList_append_z rfl _ _ rfl w.heap.size u3 acc s[k] _ HC.out rfl HO.out.1 rfl (by have := HL.out; simp; omega) HO.out.2.size ?_))
              intro v6 w6 o6 b6
              have Y6 : Hid (Own w (acc ++ [s[k]]) v6 w6) := HO.out.next (by simpa using o6) b6
              clear o6 b6
              have Z : Hid (MInv s.data.toList M (acc ++ [s[k]]) (k + 1) false true) := by
                show MInv s.data.toList M (acc ++ [s[k]]) (k + 1) false true
                have h := HS.out
                rw [HE.out] at h
                simpa using h
              go_wp2
              go_roundw
              case rel => exact ⟨k + 1, false, true, _, by omega, by go_num, rfl, rfl, Y6, Z⟩
              case measure => simp [intOf]; omega
            | true =>
              go_wp2_with (first | (go_at_call 13; refine (ws13 s k _ (by omega) hks 0 HW).mono ?_; rintro e w' ⟨rfl, rfl⟩) | (at_builtin; refine wpList_append_z rfl _ _ rfl w.heap.size u3 acc 32 32 rfl rfl HO.out.1 rfl (by have := HL.out; simp; omega) HO.out.2.size ?_))
              intro v6 w6 o6 b6
              have Y6 : Hid (Own w (acc ++ [32]) v6 w6) := HO.out.next (by simpa using o6) b6
              clear o6 b6
              go_wp2_with (first | (go_at_call 13; refine (ws13 s k _ (by omega) hks 0 HW).mono ?_; rintro e w' ⟨rfl, rfl⟩) | (at_builtin; refine wpList_append_z rfl _ _ rfl w.heap.size v6 (acc ++ [32]) s[k] _ HC.out rfl Y6.out.1 rfl (by have := HL.out; simp; omega) Y6.out.2.size ?_))
              intro v7 w7 o7 b7
              have Y7 : Hid (Own w ((acc ++ [32]) ++ [s[k]]) v7 w7) := Y6.out.next (by simpa using o7) b7
              clear o7 b7
              have Z : Hid (MInv s.data.toList M ((acc ++ [32]) ++ [s[k]]) (k + 1) false true) := by
                show MInv s.data.toList M ((acc ++ [32]) ++ [s[k]]) (k + 1) false true
                have h := HS.out
                rw [HE.out] at h
                simpa using h
              go_wp2
              go_roundw
              case rel => exact ⟨k + 1, false, true, _, by omega, by go_num, rfl, rfl, Y7, Z⟩
              case measure => simp [intOf]; omega
    · have HF : Hid (Own w M u3 wr) := by
        have := minv_end HI.out (by rw [len_byte]; omega)
        rw [← this]; exact HO
      go_wp2_with (at_builtin; refine wpList_append_z rfl _ _ rfl w.heap.size u3 M 34 34 rfl rfl HF.out.1 rfl HML.out HF.out.2.size ?_)
      intro v5 w5 o5 b5
      have XF : Hid (Own w (M ++ [34]) v5 w5) := HF.out.next (by simpa using o5) b5
      clear o5 b5
      have hcv := conv_own XF.out.1
      rw [HR.out] at hcv
      go_wp2
      go_ret
      exact ⟨rfl, XF.out.2⟩
end Go.Proofs.Qxb6600704aDoor
