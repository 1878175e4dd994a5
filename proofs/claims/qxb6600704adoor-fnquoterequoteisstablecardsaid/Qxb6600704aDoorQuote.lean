import Derived.Test.Qxb6600704aDoorQb
namespace Go.Proofs.Qxb6600704aDoor
open Go.RowKit Plain

theorem drop_byte (s : ByteArray) (k : Nat) (hk : k < s.size) : s.data.toList.drop k = s[k] :: s.data.toList.drop (k + 1) := by
  rw [List.drop_eq_getElem_cons (by simpa using hk)]
  rfl

/-- Inside a word: what is written so far, and what is still to come. -/
def InW (F acc : List UInt8) (W : ByteArray) (j : Nat) (a2 : List UInt8) : Prop := a2 ++ escL (W.data.toList.drop j) = acc ∧ acc.length ≤ F.length
theorem InW.len {F acc : List UInt8} {W : ByteArray} {j : Nat} {a2 : List UInt8} (h : InW F acc W j a2) (hF : F.length ≤ 100000000) : a2.length + 2 ≤ 140737488355328 := by
  have h1 := congrArg List.length h.1
  have := h.2
  rw [List.length_append] at h1
  omega
theorem InW.esc {F acc : List UInt8} {W : ByteArray} {j : Nat} {a2 : List UInt8} (h : InW F acc W j a2) (hj : j < W.size) (he : W[j].toNat = 34 ∨ W[j].toNat = 92) : InW F acc W (j + 1) (a2 ++ [92] ++ [W[j]]) := by
  refine ⟨?_, h.2⟩
  rw [← h.1, drop_byte W j hj]
  simp [escL, Plain.esc, he]
theorem InW.plain {F acc : List UInt8} {W : ByteArray} {j : Nat} {a2 : List UInt8} (h : InW F acc W j a2) (hj : j < W.size) (he : ¬ (W[j].toNat = 34 ∨ W[j].toNat = 92)) : InW F acc W (j + 1) (a2 ++ [W[j]]) := by
  refine ⟨?_, h.2⟩
  rw [← h.1, drop_byte W j hj]
  simp [escL, Plain.esc, he]
theorem InW.done {F acc : List UInt8} {W : ByteArray} {a2 : List UInt8} (h : InW F acc W W.size a2) : a2 = acc := by
  rw [← h.1, List.drop_of_length_le (by simp)]
  simp [escL]

def AtW (F : List UInt8) (ws : List (List UInt8)) (k : Nat) (acc : List UInt8) : Prop := (ws.drop k).foldl stepW acc = F ∧ 1 ≤ acc.length
theorem AtW.step {F : List UInt8} {ws : List (List UInt8)} {k : Nat} {acc : List UInt8} (h : AtW F ws k acc) (hk : k < ws.length) : AtW F ws (k + 1) (stepW acc ws[k]) ∧ (stepW acc ws[k]).length ≤ F.length := by
  have h1 := h.1
  rw [List.drop_eq_getElem_cons hk, List.foldl_cons] at h1
  refine ⟨⟨h1, ?_⟩, ?_⟩
  · have := stepW_len acc ws[k]; have := h.2; omega
  · rw [← h1]; exact foldl_len _ _
theorem AtW.done {F : List UInt8} {ws : List (List UInt8)} {acc : List UInt8} (h : AtW F ws ws.length acc) : acc = F := by
  have := h.1
  rw [List.drop_length] at this
  exact this
theorem AtW.len {F : List UInt8} {ws : List (List UInt8)} {k : Nat} {acc : List UInt8} (h : AtW F ws k acc) (hF : F.length ≤ 100000000) : acc.length + 1 ≤ 140737488355328 := by
  have h1 := congrArg List.length h.1
  have := foldl_len (ws.drop k) acc
  omega

set_option maxHeartbeats 4000000 in
set_option maxRecDepth 100000 in
theorem quote32 (s : ByteArray) (w : World) (hs : s.size ≤ 4194304) (HT : Hid (Tabs w)) :
    Calls Tryd.prog 32 #[.string s] w fun e w' => e = .returned (.string ⟨(quoteL s.data.toList).toArray⟩) ∧ Hid (Below w.heap.size w w') := by
  obtain ⟨ws, hws⟩ : ∃ ws, Lib.fieldsD s.data.toList = ws := ⟨_, rfl⟩
  have HWS : Hid _ := hws
  obtain ⟨F, hF⟩ : ∃ F, ws.foldl stepW [34] = F := ⟨_, rfl⟩
  have hq := quote_fields s.data.toList
  rw [hws, hF] at hq
  have HQ : Hid (F ++ [34] = quoteL s.data.toList) := hq
  have HFL : Hid (F.length ≤ 100000000) := by
    have h1 := quoteL_len s.data.toList
    rw [← hq, List.length_append] at h1
    simp at h1
    show _ ≤ _
    omega
  have HA0 : Hid (AtW F ws 0 [34]) := ⟨by simpa using hF, by simp⟩
  obtain ⟨R, hR⟩ : ∃ R : ByteArray, ⟨(quoteL s.data.toList).toArray⟩ = R := ⟨_, rfl⟩
  have HR : Hid (⟨(F ++ [34]).toArray⟩ = R) := by
    show _ = _
    rw [hq, hR]
  rw [hR]
  clear hws hF hq hR
  go_enter Tryd.func32, Tryd.ntmps32
  go_wp2_with (go_at_call 41; refine (qb_first w).mono ?_)
  rintro e w1 ⟨rfl, H1⟩
  go_wp2_with (go_at_call 42; refine (qb_fields w w1 s (by omega) HT ws HWS H1).mono ?_)
  rintro e w2 ⟨A, rfl, HB, hnm⟩
  obtain ⟨n, hn⟩ : ∃ n, ws.length = n := ⟨_, rfl⟩
  have HN : Hid (ws.length = n) := hn
  unfold maxLen at hnm
  rw [hn] at hnm
  rw [hn]
  clear hn
  go_wp2
  go_loopw [11] (fun i wr => ∃ (k : Nat) (acc : List UInt8), k ≤ n ∧ i = .int .i64 k ∧ Hid (QB w w.heap.size A ws acc wr) ∧ Hid (AtW F ws k acc)) (fun i _ => n - (intOf i).toNat)
  case atStart => exact ⟨0, [34], Nat.zero_le _, rfl, HB, HA0⟩
  case round =>
    obtain ⟨k, acc, hk, rfl, HX, HY⟩ := hrel
    by_cases hkn : k < n
    · have hkl : k < ws.length := by rw [HN.out]; exact hkn
      have hcell := HX.out.2.2.1.cell k hkl
      obtain ⟨W, hW⟩ : ∃ W : ByteArray, ⟨ws[k].toArray⟩ = W := ⟨_, rfl⟩
      rw [hW] at hcell
      have HS : Hid (AtW F ws (k + 1) (stepW acc W.data.toList) ∧ (stepW acc W.data.toList).length ≤ F.length) := by
        have := HY.out.step hkl
        rw [← hW]
        exact this
      have hWs : W.size ≤ 100000000 := by
        have h1 := stepW_len acc W.data.toList
        have h2 := HS.out.2
        have h3 := HFL.out
        have : W.data.toList.length = W.size := by simp
        omega
      obtain ⟨m, hm⟩ : ∃ m, acc.length = m := ⟨_, rfl⟩
      have HM : Hid (acc.length = m) := hm
      have HL : Hid (acc.length + 1 ≤ 140737488355328) := HY.out.len HFL.out
      by_cases hm1 : 1 < m
      · have HI0 : Hid (InW F (stepW acc W.data.toList) W 0 (acc ++ [32])) := ⟨by rw [stepW, if_pos (by omega)]; simp, HS.out.2⟩
        clear hW hm hkl
        go_wp2_with (first | (go_at_call 43; refine (qb_len HX m HM).mono ?_; rintro e w' ⟨rfl, rfl⟩) | (go_at_call 41; refine (qb_write HX 32 32 rfl HL).mono ?_))
        rintro e w3 ⟨rfl, HX3⟩
        go_wp2
        go_loopw [6] (fun i wr => ∃ (j : Nat) (a2 : List UInt8), j ≤ W.size ∧ i = .int .i64 j ∧ Hid (QB w w.heap.size A ws a2 wr) ∧ Hid (InW F (stepW acc W.data.toList) W j a2)) (fun i _ => W.size - (intOf i).toNat)
        case atStart => exact ⟨0, _, Nat.zero_le _, rfl, HX3, HI0⟩
        case round =>
          obtain ⟨j, a2, hj, rfl, HP, HI⟩ := hrel
          by_cases hjw : j < W.size
          · have HLn : Hid (a2.length + 2 ≤ 140737488355328) := HI.out.len HFL.out
            have HL1 : Hid (a2.length + 1 ≤ 140737488355328) := by have := HLn.out; show _ ≤ _; omega
            have HL2 : Hid ((a2 ++ [92]).length + 1 ≤ 140737488355328) := by have := HLn.out; show _ ≤ _; rw [List.length_append]; simpa using this
            by_cases he : W[j].toNat = 34 ∨ W[j].toNat = 92
            · have HI2 : Hid _ := HI.out.esc hjw he
              obtain ⟨c, hc⟩ : ∃ c, W[j].toNat = c := ⟨_, rfl⟩
              have HC : Hid ((W[j].toNat : Int) = (c : Int)) := by show _ = _; rw [hc]
              rw [hc] at he
              rcases he with rfl | rfl
              · go_wp2_with (go_at_call 41; refine (qb_write HP 92 92 rfl HL1).mono ?_)
                rintro e w5 ⟨rfl, HP5⟩
                go_wp2_with (go_at_call 41; refine (qb_write HP5 W[j] _ HC.out HL2).mono ?_)
                rintro e w6 ⟨rfl, HP6⟩
                go_wp2
                go_roundw
                case rel => exact ⟨j + 1, _, by omega, by go_num, HP6, HI2⟩
                case measure => simp [intOf]; omega
              · go_wp2_with (go_at_call 41; refine (qb_write HP 92 92 rfl HL1).mono ?_)
                rintro e w5 ⟨rfl, HP5⟩
                go_wp2_with (go_at_call 41; refine (qb_write HP5 W[j] _ HC.out HL2).mono ?_)
                rintro e w6 ⟨rfl, HP6⟩
                go_wp2
                go_roundw
                case rel => exact ⟨j + 1, _, by omega, by go_num, HP6, HI2⟩
                case measure => simp [intOf]; omega
            · have HI2 : Hid _ := HI.out.plain hjw he
              obtain ⟨c, hc⟩ : ∃ c, W[j].toNat = c := ⟨_, rfl⟩
              have HC : Hid ((W[j].toNat : Int) = (c : Int)) := by show _ = _; rw [hc]
              rw [hc] at he
              have he1 : ((c : Int) == 34) = false := by rw [beq_eq_false_iff_ne]; omega
              have he2 : ((c : Int) == 92) = false := by rw [beq_eq_false_iff_ne]; omega
              clear he
              go_wp2_with (go_at_call 41; refine (qb_write HP W[j] _ HC.out HL1).mono ?_)
              rintro e w6 ⟨rfl, HP6⟩
              go_wp2
              go_roundw
              case rel => exact ⟨j + 1, _, by omega, by go_num, HP6, HI2⟩
              case measure => simp [intOf]; omega
          · obtain rfl : j = W.size := by omega
            obtain rfl := HI.out.done
            go_wp2
            go_roundw
            case rel => exact ⟨k + 1, _, by omega, by go_num, HP, HS.out.1⟩
            case measure => simp [intOf]; omega
      · have HI0 : Hid (InW F (stepW acc W.data.toList) W 0 acc) := ⟨by rw [stepW, if_neg (by omega)]; simp, HS.out.2⟩
        have HX3 := HX
        clear hW hm hkl
        go_wp2_with (first | (go_at_call 43; refine (qb_len HX m HM).mono ?_; rintro e w' ⟨rfl, rfl⟩))
        go_loopw [6] (fun i wr => ∃ (j : Nat) (a2 : List UInt8), j ≤ W.size ∧ i = .int .i64 j ∧ Hid (QB w w.heap.size A ws a2 wr) ∧ Hid (InW F (stepW acc W.data.toList) W j a2)) (fun i _ => W.size - (intOf i).toNat)
        case atStart => exact ⟨0, _, Nat.zero_le _, rfl, HX3, HI0⟩
        case round =>
          obtain ⟨j, a2, hj, rfl, HP, HI⟩ := hrel
          by_cases hjw : j < W.size
          · have HLn : Hid (a2.length + 2 ≤ 140737488355328) := HI.out.len HFL.out
            have HL1 : Hid (a2.length + 1 ≤ 140737488355328) := by have := HLn.out; show _ ≤ _; omega
            have HL2 : Hid ((a2 ++ [92]).length + 1 ≤ 140737488355328) := by have := HLn.out; show _ ≤ _; rw [List.length_append]; simpa using this
            by_cases he : W[j].toNat = 34 ∨ W[j].toNat = 92
            · have HI2 : Hid _ := HI.out.esc hjw he
              obtain ⟨c, hc⟩ : ∃ c, W[j].toNat = c := ⟨_, rfl⟩
              have HC : Hid ((W[j].toNat : Int) = (c : Int)) := by show _ = _; rw [hc]
              rw [hc] at he
              rcases he with rfl | rfl
              · go_wp2_with (go_at_call 41; refine (qb_write HP 92 92 rfl HL1).mono ?_)
                rintro e w5 ⟨rfl, HP5⟩
                go_wp2_with (go_at_call 41; refine (qb_write HP5 W[j] _ HC.out HL2).mono ?_)
                rintro e w6 ⟨rfl, HP6⟩
                go_wp2
                go_roundw
                case rel => exact ⟨j + 1, _, by omega, by go_num, HP6, HI2⟩
                case measure => simp [intOf]; omega
              · go_wp2_with (go_at_call 41; refine (qb_write HP 92 92 rfl HL1).mono ?_)
                rintro e w5 ⟨rfl, HP5⟩
                go_wp2_with (go_at_call 41; refine (qb_write HP5 W[j] _ HC.out HL2).mono ?_)
                rintro e w6 ⟨rfl, HP6⟩
                go_wp2
                go_roundw
                case rel => exact ⟨j + 1, _, by omega, by go_num, HP6, HI2⟩
                case measure => simp [intOf]; omega
            · have HI2 : Hid _ := HI.out.plain hjw he
              obtain ⟨c, hc⟩ : ∃ c, W[j].toNat = c := ⟨_, rfl⟩
              have HC : Hid ((W[j].toNat : Int) = (c : Int)) := by show _ = _; rw [hc]
              rw [hc] at he
              have he1 : ((c : Int) == 34) = false := by rw [beq_eq_false_iff_ne]; omega
              have he2 : ((c : Int) == 92) = false := by rw [beq_eq_false_iff_ne]; omega
              clear he
              go_wp2_with (go_at_call 41; refine (qb_write HP W[j] _ HC.out HL1).mono ?_)
              rintro e w6 ⟨rfl, HP6⟩
              go_wp2
              go_roundw
              case rel => exact ⟨j + 1, _, by omega, by go_num, HP6, HI2⟩
              case measure => simp [intOf]; omega
          · obtain rfl : j = W.size := by omega
            obtain rfl := HI.out.done
            go_wp2
            go_roundw
            case rel => exact ⟨k + 1, _, by omega, by go_num, HP, HS.out.1⟩
            case measure => simp [intOf]; omega
    · obtain rfl : k = n := by omega
      have HX2 : Hid (QB w w.heap.size A ws F wr) := by
        have := HY.out
        rw [← HN.out] at this
        rw [← this.done]
        exact HX
      have HL : Hid (F.length + 1 ≤ 140737488355328) := by have := HFL.out; show _ ≤ _; omega
      go_wp2_with (go_at_call 41; refine (qb_write HX2 34 34 rfl HL).mono ?_)
      rintro e w4 ⟨rfl, HX4⟩
      go_wp2_with (go_at_call 44; refine (qb_string HX4 R HR).mono ?_; rintro e w' ⟨rfl, HZ⟩)
      go_ret
      exact ⟨rfl, HZ⟩
end Go.Proofs.Qxb6600704aDoor
