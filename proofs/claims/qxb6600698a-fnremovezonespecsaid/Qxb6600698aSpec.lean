import Derived.Test.Qxb6600698aModel
namespace Go.Proofs.Qxb6600698a
open Go.RowKit Plain

def ModelPost (l : List UInt8) (w : World) (e : Ending) (w' : World) : Prop := (∃ t : ByteArray, e = .returned (.string t) ∧ t.data.toList = l) ∧ Below w.heap.size w w'

theorem take_snoc (s : ByteArray) (k : Nat) (h : k < s.size) : s.data.toList.take (k + 1) = s.data.toList.take k ++ [s[k]] := by
  rw [List.take_succ_eq_append_getElem (by simpa using h)]; rfl

theorem drop_snoc (s : ByteArray) (e m : Nat) (h : e + m < s.size) : (s.data.toList.drop e).take (m + 1) = (s.data.toList.drop e).take m ++ [s[e + m]] := by
  rw [List.take_succ_eq_append_getElem (by simp; omega)]
  simp only [List.getElem_drop]
  rfl

theorem take_len (s : ByteArray) (k : Nat) (h : k ≤ s.size) : (s.data.toList.take k).length = k := by
  simp; omega

theorem list_len (s : ByteArray) : s.data.toList.length = s.size := by simp

theorem byte_ne {x c : UInt8} {cn : Int} (hc : cn = (c.toNat : Int)) (h : ((x.toNat : Int) == cn) = false) : x ≠ c := by
  rw [byte_eq hc, decide_eq_false_iff_not] at h; exact h
theorem byte_is {x c : UInt8} {cn : Int} (hc : cn = (c.toNat : Int)) (h : ((x.toNat : Int) == cn) = true) : x = c := by
  rw [byte_eq hc, decide_eq_true_eq] at h; exact h

set_option maxHeartbeats 2000000 in
theorem model8 (s : ByteArray) (w : World) (hs : s.size ≤ 1048576) :
    Calls Try.prog 8 #[.string s] w fun e w' => ModelPost (rzL s.data.toList) w e w' := by
  by_cases hz : s.size = 0
  · have hnil : s.data.toList = [] := List.length_eq_zero_iff.1 (by rw [list_len, hz])
    have HR : Hid (rzL s.data.toList = s.data.toList) := rz_no_head (by rw [hnil]; simp)
    have hzz : ((s.size : Int) == 0) = true := by simp [hz]
    clear hnil hz
    go_enter Try.func8, Try.ntmps8
    go_wp2
    go_ret
    exact ⟨⟨s, rfl, HR.out.symm⟩, Below.refl _ _⟩
  have hpos : 0 < s.size := by omega
  have hzz : ((s.size : Int) == 0) = false := by simp [hz]
  clear hz
  have hg0 : s.data.toList.head? = some s[0] := by
    have hl := list_len s
    cases e : s.data.toList with
    | nil => rw [e] at hl; simp at hl; omega
    | cons x l =>
      have : s[0] = s.data.toList[0]'(by rw [e]; simp) := rfl
      rw [this]
      simp [e]
  by_cases hf : ((s[0].toNat : Int) != 91) = true
  · have HR : Hid (rzL s.data.toList = s.data.toList) := by
      apply rz_no_head
      rw [hg0]
      intro e
      simp only [Option.some.injEq] at e
      rw [e] at hf
      simp at hf
    clear hg0
    go_enter Try.func8, Try.ntmps8
    go_wp2
    go_ret
    exact ⟨⟨s, rfl, HR.out.symm⟩, Below.refl _ _⟩
  · rw [Bool.not_eq_true] at hf
    have HH : Hid (s.data.toList.head? = some 91) := by
      show _ = _
      rw [hg0]
      congr 1
      apply UInt8.toNat_inj.1
      have : ((s[0].toNat : Int) = 91) := by simpa using hf
      show s[0].toNat = 91
      omega
    clear hg0
    go_enter Try.func8, Try.ntmps8
    go_wp2
    go_loop [3, 4, 5, 6] (fun e z p i => ∃ (k : Nat) (en zn pn : Int), k ≤ s.size ∧ i = .int .i64 k ∧ e = .int .i64 en ∧ z = .int .i64 zn ∧ p = .int .i64 pn ∧ Hid (Scan (s.data.toList.take k) en zn pn)) (fun _ _ _ i => s.size - (intOf i).toNat)
    case atStart => exact ⟨0, -1, -1, -1, Nat.zero_le _, rfl, rfl, rfl, rfl, scan_nil⟩
    case round =>
      obtain ⟨k, en, zn, pn, hk, rfl, rfl, rfl, rfl, hsc⟩ := hrel
      by_cases hks : k < s.size
      · have HT : Hid _ := take_snoc s k hks
        have HL : Hid _ := take_len s k (by omega)
        go_wp2
        · have hx : ((s[k].toNat : Int) == 37) = true := by assumption
          have ex : s[k] = 37 := byte_is rfl hx
          go_round
          case rel =>
            refine ⟨k + 1, en, zn, k, by omega, by go_num, rfl, rfl, rfl, ?_⟩
            show Scan _ _ _ _
            have := scan_pct hsc.out
            rw [HL.out] at this
            rw [HT.out, ex]; exact this
          case measure => simp [intOf]; omega
        · have hx : ((s[k].toNat : Int) == 37) = false := by assumption
          have hx2 : ((s[k].toNat : Int) == 93) = true := by assumption
          have ex : s[k] = 93 := byte_is rfl hx2
          go_round
          case rel =>
            refine ⟨k + 1, k, pn, pn, by omega, by go_num, rfl, rfl, rfl, ?_⟩
            show Scan _ _ _ _
            have := scan_end hsc.out
            rw [HL.out] at this
            rw [HT.out, ex]; exact this
          case measure => simp [intOf]; omega
        · have hx : ((s[k].toNat : Int) == 37) = false := by assumption
          have hx2 : ((s[k].toNat : Int) == 93) = false := by assumption
          go_round
          case rel =>
            refine ⟨k + 1, en, zn, pn, by omega, by go_num, rfl, rfl, rfl, ?_⟩
            show Scan _ _ _ _
            rw [HT.out]; exact scan_other hsc.out (byte_ne rfl hx) (byte_ne rfl hx2)
          case measure => simp [intOf]; omega
      · have hfull : s.data.toList.take k = s.data.toList := List.take_of_length_le (by rw [list_len]; omega)
        rw [hfull] at hsc
        clear hfull
        rcases hsc.out.2 with ⟨rfl, rfl, hn⟩ | ⟨a, b, hl, hb, rfl, hzo⟩
        · have HR : Hid (rzL s.data.toList = s.data.toList) := rz_no_end hn
          clear hn hsc
          go_wp2
          go_ret
          exact ⟨⟨s, rfl, HR.out.symm⟩, Below.refl _ _⟩
        · rcases hzo with ⟨rfl, hn⟩ | ⟨p, q, hl2, hb2, rfl⟩
          · have HR : Hid (rzL s.data.toList = s.data.toList) := rz_no_zone hl hb hn
            clear hn hsc hl hb
            go_wp2
            go_ret
            exact ⟨⟨s, rfl, HR.out.symm⟩, Below.refl _ _⟩
          · have hpl : p.length < a.length := by rw [hl2]; simp
            have hal : a.length < s.size := by rw [← list_len s, hl]; simp
            have HR : Hid (rzL s.data.toList = p ++ 93 :: b) := rz_cut HH.out hl hb hl2 hb2
            have HP : Hid (s.data.toList.take p.length = p) := by
              show _ = _
              rw [hl, hl2]; simp
            have HE : Hid (s.data.toList.drop a.length = 93 :: b) := by
              show _ = _
              rw [hl]; simp
            clear hsc hl hb hl2 hb2
            obtain ⟨i0, hi, hz0, hz1, hz2⟩ := info_parts Try.info5
            generalize p.length = zl at *
            generalize a.length = el at *
            have sb1 : i0.bytes * s.size ≤ 281474976710656 := by rw [hz2]; omega
            have sb2 : s.size ≤ maxLen := by unfold maxLen; omega
            have SB : Hid (i0.bytes * s.size ≤ 281474976710656 ∧ s.size ≤ maxLen) := ⟨sb1, sb2⟩
            clear sb1 sb2
            go_wp2_with (refine wpList_make_own _ rfl _ _ 26 rfl w.heap.size 5 i0 (.int .u8 0) 1 Try.underlying26 hi hz0 hz1 .i64 .i64 _ s.size rfl rfl rfl SB.out.1 SB.out.2 (Nat.le_refl _) ?_)
            intro w1 hown hgrow
            have X0 : Hid (w1.ownsRow w.heap.size 5 1 (.slice (some ⟨w.heap.size, 0, none⟩) 0 s.size) ([] : List UInt8).length (cellsU []) ∧ Below w.heap.size w w1) := ⟨hown, (Below.refl _ _).grown hgrow (Nat.le_refl _) (by simp)⟩
            clear hown hgrow
            go_wp2
            go_loopw [7, 8] (fun v i wr => ∃ (j : Nat), j ≤ zl ∧ i = .int .i64 j ∧ Hid (wr.ownsRow w.heap.size 5 1 v (s.data.toList.take j).length (cellsU (s.data.toList.take j)) ∧ Below w.heap.size w wr)) (fun _ i _ => zl - (intOf i).toNat)
            case atStart => exact ⟨0, Nat.zero_le _, rfl, X0.out⟩
            case round =>
              obtain ⟨j, hj, rfl, HX⟩ := hrel
              by_cases hjz : j < zl
              · have hjs : j < s.size := by omega
                have HT : Hid _ := take_snoc s j hjs
                have HTL : Hid ((s.data.toList.take j).length + 1 ≤ 140737488355328) := by
                  show _ ≤ _
                  rw [take_len s j (by omega)]; omega
                go_wp2_with (at_builtin; refine wpList_append_byte rfl _ _ rfl w.heap.size u7 (s.data.toList.take j) s[j] rfl HX.out.1 rfl HTL.out HX.out.2.size ?_)
                intro v' w2 hown2 hb2
                have X2 : Hid (w2.ownsRow w.heap.size 5 1 v' (s.data.toList.take (j + 1)).length (cellsU (s.data.toList.take (j + 1))) ∧ Below w.heap.size w w2) := ⟨by rw [HT.out]; simpa using hown2, HX.out.2.trans hb2⟩
                clear hown2 hb2
                go_wp2
                go_roundw
                case rel => exact ⟨j + 1, by omega, by go_num, X2⟩
                case measure => simp [intOf]; omega
              · obtain rfl : j = zl := by omega
                have X3 : Hid (wr.ownsRow w.heap.size 5 1 u7 (s.data.toList.take j ++ (s.data.toList.drop el).take 0).length (cellsU (s.data.toList.take j ++ (s.data.toList.drop el).take 0)) ∧ Below w.heap.size w wr) := by
                  rw [List.take_zero, List.append_nil]; exact HX
                go_wp2
                go_loopw [7, 9] (fun v i wr => ∃ (m : Nat), el + m ≤ s.size ∧ i = .int .i64 ((el + m : Nat) : Int) ∧ Hid (wr.ownsRow w.heap.size 5 1 v (s.data.toList.take j ++ (s.data.toList.drop el).take m).length (cellsU (s.data.toList.take j ++ (s.data.toList.drop el).take m)) ∧ Below w.heap.size w wr)) (fun _ i _ => s.size - (intOf i).toNat)
                case atStart => exact ⟨0, by omega, rfl, X3⟩
                case round =>
                  obtain ⟨m, hm, rfl, HY⟩ := hrel
                  by_cases hms : el + m < s.size
                  · have HT : Hid _ := drop_snoc s el m hms
                    have HTL : Hid ((s.data.toList.take j ++ (s.data.toList.drop el).take m).length + 1 ≤ 140737488355328) := by
                      show _ ≤ _
                      have h1 := List.length_take_le j s.data.toList
                      have h2 := List.length_take_le m (s.data.toList.drop el)
                      rw [List.length_append]; omega
                    go_wp2_with (at_builtin; refine wpList_append_byte rfl _ _ rfl w.heap.size u7 (s.data.toList.take j ++ (s.data.toList.drop el).take m) s[el + m] rfl HY.out.1 rfl HTL.out HY.out.2.size ?_)
                    intro v' w2 hown2 hb2
                    have X2 : Hid (w2.ownsRow w.heap.size 5 1 v' (s.data.toList.take j ++ (s.data.toList.drop el).take (m + 1)).length (cellsU (s.data.toList.take j ++ (s.data.toList.drop el).take (m + 1))) ∧ Below w.heap.size w w2) := ⟨by rw [HT.out, ← List.append_assoc]; simpa using hown2, HY.out.2.trans hb2⟩
                    clear hown2 hb2
                    go_wp2
                    go_roundw
                    case rel => exact ⟨m + 1, by omega, by go_num, X2⟩
                    case measure => simp [intOf]; omega
                  · have hfin : s.data.toList.take j ++ (s.data.toList.drop el).take m = p ++ 93 :: b := by
                      rw [HP.out, List.take_of_length_le (by rw [List.length_drop, list_len]; omega), HE.out]
                    rw [hfin] at HY
                    have hcv := conv_own HY.out.1
                    clear hfin
                    go_wp2
                    go_ret
                    refine ⟨⟨_, rfl, ?_⟩, HY.out.2⟩
                    rw [HR.out]

set_option maxHeartbeats 1000000 in
theorem bytes6 (s : ByteArray) (w : World) (h0 : s.size ≤ 9223372036854775807) :
    Calls Try.prog 6 #[.string s] w fun e w' => (∃ b, e = .returned (.bool b) ∧ (b = true → s.size ≤ 1048576)) ∧ w' = w := by
  go_enter Try.func6, Try.ntmps6
  go_wp2
  all_goals
    go_ret
    first
    | exact ⟨⟨false, rfl, by simp⟩, rfl⟩
    | exact ⟨⟨true, rfl, by intro; omega⟩, rfl⟩

set_option maxHeartbeats 1000000 in
theorem spec_walk (s : ByteArray) (w : World) (h0 : s.size ≤ 9223372036854775807) :
    Calls Try.prog 3 #[.string s] w fun e w' => e = .returned (.bool true) ∧ Below w.heap.size w w' := by
  go_enter Try.func3, Try.ntmps3
  go_wp2_with fail
  refine (bytes6 s w h0).mono ?_
  rintro e w' ⟨⟨b, rfl, hb⟩, rfl⟩
  cases b with
  | false =>
    clear hb
    go_wp2_with fail
    go_ret
    exact ⟨rfl, Below.refl _ _⟩
  | true =>
    have hsum := hb rfl
    clear hb
    go_wp2_with fail
    refine (remove7 s w' (by omega)).mono ?_
    rintro e w1 ⟨⟨r, rfl, hr⟩, n, rfl⟩
    have HR : Hid _ := hr
    clear hr
    go_wp2_with fail
    refine (model8 s _ hsum).mono ?_
    rintro e w2 ⟨⟨t, rfl, ht⟩, hb2⟩
    have HT : Hid _ := And.intro ht hb2
    clear ht hb2
    go_wp2_with fail
    go_ret
    refine ⟨ret_bool ?_, (below_drewN (Below.refl _ _) n).trans HT.out.2⟩
    rw [ByteArray.toList_eq, ByteArray.toList_eq, HR.out, HT.out.1]
    simp

end Go.Proofs.Qxb6600698a
