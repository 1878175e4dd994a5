import Derived.Test.Qxb6002590aAgree2
namespace Go.Proofs.Qxb6002590a
open Go.RowKit Plain

/-- What is known behind the two concatenations, in the world w3 (and in every world that differs from it by draws). -/
structure Base (w w3 : World) (q1 q2 : Option Addr) (o1 o2 : Option (List Int)) (ap ah ak : Option Addr) (pl ph k : List Int) : Prop where
  rb : w3.heap[w.heap.size]? = some (.cells #[.pointer q1, .pointer q2, .bool false, .int .i64 0] 27 (0, 0))
  b1 : BoundIs w3 (.pointer q1) false o1
  b2 : BoundIs w3 (.pointer q2) true o2
  vp : View w3 ap pl
  vh : View w3 ah ph
  vk : View w3 ak k
  below : Below w.heap.size w w3

theorem bound_none {w : World} {q : Option Addr} {x : Bool} {o : Option (List Int)} (h : BoundIs w (.pointer q) x o) : q.isNone = o.isNone := by
  cases o with
  | none =>
    obtain rfl : q = none := by simpa [BoundIs] using h
    rfl
  | some l =>
    obtain ⟨g, ad, c, e, _⟩ := h
    obtain rfl : q = some ⟨g, 0, none⟩ := by simpa using e
    rfl

theorem bound_cell {w : World} {q : Option Addr} {x : Bool} {o : Option (List Int)} (h : BoundIs w (.pointer q) x o) : q = none ∨ ∃ g, q = some ⟨g, 0, none⟩ ∧ w.cell? ⟨g, 1, none⟩ = some (.bool x) := by
  cases o with
  | none => exact .inl (by simpa [BoundIs] using h)
  | some l =>
    obtain ⟨g, ad, c, e, _, h1, _⟩ := h
    exact .inr ⟨g, by simpa using e, h1⟩

theorem inLow_no {k pl : List Int} (h : ¬ 0 < cmpL k pl) : inLow true k pl = false := by unfold inLow; rw [if_pos rfl, decide_eq_false h]; rfl
theorem inLow_yes {k pl : List Int} (h : 0 < cmpL k pl) : inLow true k pl = !preL pl k := by unfold inLow; rw [if_pos rfl, decide_eq_true h]; rfl
theorem inHigh_no {k ph : List Int} (h : ¬ cmpL k ph ≤ 0) : inHigh false k ph = preL ph k := by unfold inHigh; rw [if_neg (by simp), decide_eq_false h]; rfl
theorem inHigh_yes {k ph : List Int} (h : cmpL k ph ≤ 0) : inHigh false k ph = true := by unfold inHigh; rw [if_neg (by simp), decide_eq_true h]; rfl

set_option maxHeartbeats 4000000 in
set_option maxRecDepth 100000 in
theorem agree_ok (a1 a2 a3 ak : Option Addr) (c1 c2 c3 ck : Nat) (lo hi pre k : List Int) (le he : Bool) (q1 q2 : Option Addr) (w : World) (h1 : Arg w a1 c1 lo) (h2 : Arg w a2 c2 hi) (h3 : Arg w a3 c3 pre) (h4 : Arg w ak ck k) (hf : failL a1.isNone le pre lo = false)
    (hb1 : BoundIs w (.pointer q1) false (lowerL a1.isNone le a3.isNone pre lo)) (hb2 : BoundIs w (.pointer q2) true (upperL a2.isNone he a3.isNone pre hi)) :
    Calls Try.prog 10 #[.agg #[.pointer q1, .pointer q2, .bool false, .int .i64 0], .bool true, .slice a3 pre.length c3, .bool a3.isNone, .slice a1 lo.length c1, .slice a2 hi.length c2, .bool le, .bool he, .slice ak k.length ck] w
      fun e w' => e = .returned (.bool true) ∧ Below w.heap.size w w' := by
  have hn1 : a1.isNone = true → lo = [] := fun e => (h1.nil (by simpa using e)).1
  have hn2 : a2.isNone = true → hi = [] := fun e => (h2.nil (by simpa using e)).1
  have hn3 : a3.isNone = true → pre = [] := fun e => (h3.nil (by simpa using e)).1
  have HLow : Hid (aboveB (lowerL a1.isNone le a3.isNone pre lo) k = inLow (!a1.isNone && le) k (pre ++ lo)) := low_agree h4.byt hf hn1 hn3
  have HHigh : Hid (belowB (upperL a2.isNone he a3.isNone pre hi) k = inHigh (!a2.isNone && he) k (pre ++ hi)) := high_agree h4.byt hn2 hn3
  have HLn : Hid ((lowerL a1.isNone le a3.isNone pre lo).isNone = (a1.isNone && a3.isNone)) := lower_none hf
  have HHn : Hid ((upperL a2.isNone he a3.isNone pre hi).isNone = (!(!a2.isNone && he) && ffL (pre ++ hi))) := upper_none hn2 hn3
  have HF : Hid ((!a1.isNone && le) = true → ffL (pre ++ lo) = false) := by
    intro e
    unfold failL at hf
    rw [e, afterL_isNone] at hf
    simpa using hf
  have hq1 := fun w => run_neq_slice_nil_any (P := Try.prog) w 22 5 a1 lo.length c1 0 0 Try.underlying22
  have hq2 := fun w => run_neq_slice_nil_any (P := Try.prog) w 22 5 a2 hi.length c2 0 0 Try.underlying22
  have he1 := fun w => Lib.run_eql_slice_nil (P := Try.prog) w 22 5 a1 lo.length c1 0 0 Try.underlying22
  have hb0 : Below w.heap.size w (w.alloc (.cells #[.pointer q1, .pointer q2, .bool false, .int .i64 0] 27)) := (Below.refl _ _).alloc (Nat.le_refl _) _
  have hh := heap_alloc_new w (.cells #[.pointer q1, .pointer q2, .bool false, .int .i64 0] 27)
  generalize lowerL a1.isNone le a3.isNone pre lo = o1 at *
  generalize upperL a2.isNone he a3.isNone pre hi = o2 at *
  have hkl : k.length ≤ 1048576 := h4.len
  have hpll : (pre ++ lo).length ≤ 2097152 := by rw [List.length_append]; have := h1.len; have := h3.len; omega
  have hphl : (pre ++ hi).length ≤ 2097152 := by rw [List.length_append]; have := h2.len; have := h3.len; omega
  obtain ⟨pl, hpl⟩ : ∃ pl, pre ++ lo = pl := ⟨_, rfl⟩
  obtain ⟨ph, hph⟩ : ∃ ph, pre ++ hi = ph := ⟨_, rfl⟩
  rw [hpl] at HLow HF hpll
  rw [hph] at HHigh HHn hphl
  obtain ⟨bl, hbl⟩ : ∃ bl, inLow (!a1.isNone && le) k pl = bl := ⟨_, rfl⟩
  obtain ⟨bh, hbh⟩ : ∃ bh, inHigh (!a2.isNone && he) k ph = bh := ⟨_, rfl⟩
  rw [hbl] at HLow
  rw [hbh] at HHigh
  have HBL : Hid (inLow (!a1.isNone && le) k pl = bl) := hbl
  have HBH : Hid (inHigh (!a2.isNone && he) k ph = bh) := hbh
  clear hbl hbh
  have HA : Hid (Arg w a1 c1 lo ∧ Arg w a2 c2 hi ∧ Arg w a3 c3 pre ∧ Arg w ak ck k ∧ BoundIs w (.pointer q1) false o1 ∧ BoundIs w (.pointer q2) true o2) := ⟨h1, h2, h3, h4, hb1, hb2⟩
  have HP : Hid (pre ++ lo = pl ∧ pre ++ hi = ph ∧ Below w.heap.size w (w.alloc (.cells #[.pointer q1, .pointer q2, .bool false, .int .i64 0] 27))) := ⟨hpl, hph, hb0⟩
  have HH : Hid _ := hh
  clear h1 h2 h3 h4 hpl hph hb0 hh hf hb1 hb2 hn1 hn2 hn3
  go_enter Try.func10, Try.ntmps10
  go_wp2_with fail
  refine (cat_at a3 c3 pre a1 c1 lo pl _ (HA.out.2.2.1.later HP.out.2.2) (HA.out.1.later HP.out.2.2) HP.out.1).mono ?_
  rintro e w1 ⟨ap, d1, rfl, hv1, hw1⟩
  have HB : Hid (View w1 ap pl ∧ Below w.heap.size w w1) := ⟨hv1, HP.out.2.2.trans (hw1.mono (by simp))⟩
  have HH1 : Hid _ := (hw1.block w.heap.size (by simp)).trans HH.out
  clear hv1 hw1
  go_wp2_with fail
  refine (cat_at a3 c3 pre a2 c2 hi ph _ (HA.out.2.2.1.later HB.out.2) (HA.out.2.1.later HB.out.2) HP.out.2.1).mono ?_
  rintro e w3 ⟨ah, d2, rfl, hv2, hw2⟩
  have hB : Base w w3 q1 q2 o1 o2 ap ah ak pl ph k :=
    ⟨(hw2.block w.heap.size (lt_of_heap HH1.out)).trans HH1.out, HA.out.2.2.2.2.1.later (HB.out.2.trans (hw2.mono HB.out.2.size)), HA.out.2.2.2.2.2.later (HB.out.2.trans (hw2.mono HB.out.2.size)), HB.out.1.below hw2, hv2, HA.out.2.2.2.1.view.below (HB.out.2.trans (hw2.mono HB.out.2.size)), HB.out.2.trans (hw2.mono HB.out.2.size)⟩
  have cb0 : w3.cell? ⟨w.heap.size, 0, none⟩ = some (.pointer q1) := by rw [cell_of_row w3 _ _ _ _ _ hB.rb]; rfl
  have cb1 : w3.cell? ⟨w.heap.size, 1, none⟩ = some (.pointer q2) := by rw [cell_of_row w3 _ _ _ _ _ hB.rb]; rfl
  have cb2 : w3.cell? ⟨w.heap.size, 2, none⟩ = some (.bool false) := by rw [cell_of_row w3 _ _ _ _ _ hB.rb]; rfl
  have cb3 : w3.cell? ⟨w.heap.size, 3, none⟩ = some (.int .i64 0) := by rw [cell_of_row w3 _ _ _ _ _ hB.rb]; rfl
  have HBs : Hid (Base w w3 q1 q2 o1 o2 ap ah ak pl ph k) := hB
  clear hv2 hw2 HB HH HH1 HP HA hB
  go_upto_region 3 with (fail)
  go_cut [21] (fun v wc => v = .bool true ∧ w3 = wc)
  case first =>
    by_cases hA : (!a1.isNone && le) = true
    · obtain ⟨hA1, rfl⟩ : a1.isNone = false ∧ le = true := by simpa using hA
      rw [hA1] at hq1
      simp only [Bool.not_false] at hq1
      have HX : Hid (ffL pl = false) := HF.out hA
      clear hA
      go_wp2_with fail
      refine (allFF_any ap d1 pl w3 HBs.out.vp (by omega)).mono ?_
      rw [HX.out]
      rintro e w' ⟨rfl, rfl⟩
      go_wp2_with fail
      go_meet
      case rel => exact ⟨rfl, rfl⟩
    · have hsplit : (a1.isNone = true) ∨ (a1.isNone = false ∧ le = false) := by
        revert hA; cases a1.isNone <;> cases le <;> simp
      clear hA
      rcases hsplit with e1 | ⟨e1, rfl⟩
      all_goals
        rw [e1] at hq1
        simp only [Bool.not_false, Bool.not_true] at hq1
        have HE : Hid _ := e1
        clear e1
        go_wp2_with fail
        go_meet
        case rel => exact ⟨rfl, rfl⟩
  case rest =>
    obtain ⟨rfl, rfl⟩ := hcut
    have hp1 := run_eql_ptr_nil q1
    rw [(bound_none HBs.out.b1).trans HLn.out] at hp1
    go_upto_region 10 with (fail)
    go_cut [68] (fun v wc => v = .bool false ∧ w3 = wc)
    case first =>
      cases e1 : a1.isNone
      all_goals
        rw [e1] at he1 hp1
        simp only [Bool.true_and, Bool.false_and] at hp1
        have HE : Hid _ := e1
        clear e1
        go_wp2_with fail
        go_meet
        case rel => exact ⟨by simp, rfl⟩
    case rest =>
      obtain ⟨rfl, rfl⟩ := hcut
      clear hp1
      go_upto_region 12 with (fail)
      go_cut [78] (fun v wc => v = .bool false ∧ w3 = wc)
      case first =>
        rcases bound_cell HBs.out.b1 with rfl | ⟨g, rfl, hg⟩
        all_goals
          go_wp2_with fail
          go_meet
          case rel => exact ⟨rfl, rfl⟩
      case rest =>
        obtain ⟨rfl, rfl⟩ := hcut
        have hp2 := run_eql_ptr_nil q2
        have HQ2 : Hid (q2.isNone = (!(!a2.isNone && he) && ffL ph)) := (bound_none HBs.out.b2).trans HHn.out
        go_upto_region 14 with (fail)
        go_cut [92] (fun v wc => v = .bool false ∧ ∃ n, w3.drewN n = wc)
        case first =>
          by_cases hA : (!a2.isNone && he) = true
          · obtain ⟨hA1, rfl⟩ : a2.isNone = false ∧ he = true := by simpa using hA
            have hz : q2.isNone = false := by rw [HQ2.out, hA]; rfl
            rw [hA1] at hq2
            rw [hz] at hp2
            simp only [Bool.not_false] at hq2
            have HE : Hid _ := hA1
            clear hA hA1 hz
            go_quiet (fail)
            go_wp2_with fail
            go_meet
            case rel => exact ⟨rfl, _, rfl⟩
          · have hsplit : (a2.isNone = true) ∨ (a2.isNone = false ∧ he = false) := by
              revert hA; cases a2.isNone <;> cases he <;> simp
            have hz : q2.isNone = ffL ph := by rw [HQ2.out]; rw [Bool.not_eq_true] at hA; rw [hA]; rfl
            rw [hz] at hp2
            clear hA hz
            rcases hsplit with e1 | ⟨e1, rfl⟩
            all_goals
              rw [e1] at hq2
              simp only [Bool.not_false, Bool.not_true] at hq2
              have HE : Hid _ := e1
              clear e1
              go_quiet ((go_at_call 25; exact Calls.quiet_of_same (allFF_any _ _ _ _ HBs.out.vh (by omega))))
              go_wp2_with fail
              go_meet
              case rel => exact ⟨by simp, _, rfl⟩
        case rest =>
          obtain ⟨rfl, n, rfl⟩ := hcut
          clear hp2
          go_upto_region 16 with (fail)
          go_cut [103] (fun v wc => v = .bool false ∧ w3.drewN n = wc)
          case first =>
            rcases bound_cell HBs.out.b2 with rfl | ⟨g, rfl, hg⟩
            all_goals
              go_wp2_with fail
              go_meet
              case rel => exact ⟨rfl, rfl⟩
          case rest =>
            obtain ⟨rfl, rfl⟩ := hcut
            go_upto_region 19 with (fail)
            go_cut [108] (fun v wc => v = .bool (!a1.isNone && le) ∧ w3.drewN n = wc)
            case first =>
              cases e1 : a1.isNone
              all_goals
                rw [e1] at hq1
                simp only [Bool.not_false, Bool.not_true] at hq1
                have HE : Hid _ := e1
                clear e1
                go_wp2_with fail
                go_meet
                case rel => exact ⟨by rw [HE.out]; rfl, rfl⟩
            case rest =>
              obtain ⟨rfl, rfl⟩ := hcut
              go_upto_if 108 with (fail)
              go_cut [22] (fun v wc => v = .bool bl ∧ ∃ n, w3.drewN n = wc)
              case first =>
                cases hA : (!a1.isNone && le)
                · have HX : Hid ((!a1.isNone && le) = false) := hA
                  clear hA
                  go_wp2_with fail
                  refine (cmp_any ak ck k ap d1 pl _ (by exact HBs.out.vk) (by exact HBs.out.vp) (by omega)).mono ?_
                  rintro e w4 ⟨rfl, m, rfl⟩
                  go_wp2_with fail
                  go_meet
                  case rel => exact ⟨by rw [← HBL.out, HX.out]; simp [inLow], _, rfl⟩
                · have HX : Hid ((!a1.isNone && le) = true) := hA
                  clear hA
                  go_wp2_with fail
                  refine (cmp_any ak ck k ap d1 pl _ (by exact HBs.out.vk) (by exact HBs.out.vp) (by omega)).mono ?_
                  rintro e w4 ⟨rfl, m, rfl⟩
                  by_cases hc : 0 < cmpL k pl
                  · go_wp2_with fail
                    refine (hasPrefix_any ak ck k ap d1 pl _ (by exact HBs.out.vk) (by exact HBs.out.vp) (by omega)).mono ?_
                    rintro e w5 ⟨rfl, m2, rfl⟩
                    go_wp2_with fail
                    go_meet
                    case rel => exact ⟨by rw [← HBL.out, HX.out, inLow_yes (by omega)], _, rfl⟩
                  · have hd : decide (0 < cmpL k pl) = false := decide_eq_false hc
                    go_wp2_with fail
                    go_meet
                    case rel => exact ⟨by rw [← HBL.out, HX.out, inLow_no (by omega)], _, rfl⟩
              case rest =>
                obtain ⟨rfl, n2, rfl⟩ := hcut
                go_upto_region 23 with (fail)
                go_cut [127] (fun v wc => v = .bool (!a2.isNone && he) ∧ w3.drewN n2 = wc)
                case first =>
                  cases e1 : a2.isNone
                  all_goals
                    rw [e1] at hq2
                    simp only [Bool.not_false, Bool.not_true] at hq2
                    have HE : Hid _ := e1
                    clear e1
                    go_wp2_with fail
                    go_meet
                    case rel => exact ⟨by rw [HE.out]; rfl, rfl⟩
                case rest =>
                  obtain ⟨rfl, rfl⟩ := hcut
                  go_upto_if 127 with (fail)
                  go_cut [23] (fun v wc => v = .bool bh ∧ ∃ n, w3.drewN n = wc)
                  case first =>
                    cases hA : (!a2.isNone && he)
                    · have HX : Hid ((!a2.isNone && he) = false) := hA
                      clear hA
                      go_wp2_with fail
                      refine (cmp_any ak ck k ah d2 ph _ (by exact HBs.out.vk) (by exact HBs.out.vh) (by omega)).mono ?_
                      rintro e w4 ⟨rfl, m, rfl⟩
                      by_cases hc : cmpL k ph ≤ 0
                      · go_wp2_with fail
                        go_meet
                        case rel => exact ⟨by rw [← HBH.out, HX.out, inHigh_yes (by omega)], _, rfl⟩
                      · have hd : decide (cmpL k ph ≤ 0) = false := decide_eq_false hc
                        go_wp2_with fail
                        refine (hasPrefix_any ak ck k ah d2 ph _ (by exact HBs.out.vk) (by exact HBs.out.vh) (by omega)).mono ?_
                        rintro e w5 ⟨rfl, m2, rfl⟩
                        go_wp2_with fail
                        go_meet
                        case rel => exact ⟨by rw [← HBH.out, HX.out, inHigh_no (by omega)], _, rfl⟩
                    · have HX : Hid ((!a2.isNone && he) = true) := hA
                      clear hA
                      go_wp2_with fail
                      refine (cmp_any ak ck k ah d2 ph _ (by exact HBs.out.vk) (by exact HBs.out.vh) (by omega)).mono ?_
                      rintro e w4 ⟨rfl, m, rfl⟩
                      go_wp2_with fail
                      go_meet
                      case rel => exact ⟨by rw [← HBH.out, HX.out]; simp [inHigh], _, rfl⟩
                  case rest =>
                    obtain ⟨rfl, n3, rfl⟩ := hcut
                    go_wp2_with fail
                    refine (above_any (.pointer q2) q1 o1 ak ck k _ (by exact HBs.out.b1) (by exact HBs.out.vk) (by omega)).mono ?_
                    rw [HLow.out]
                    rintro e w6 ⟨rfl, hb6⟩
                    have hb6' : Below w3.heap.size w3 w6 := (below_drewN (Below.refl _ _) n3).trans hb6
                    have cb0' := cell_later hb6' cb0
                    have cb1' := cell_later hb6' cb1
                    have cb2' := cell_later hb6' cb2
                    have cb3' := cell_later hb6' cb3
                    have HB6 : Hid (Below w3.heap.size w3 w6) := hb6'
                    clear hb6 hb6' cb0 cb1 cb2 cb3
                    go_wp2_with fail
                    refine (below_any (.pointer q1) q2 o2 ak ck k _ (HBs.out.b2.later HB6.out) (HBs.out.vk.below HB6.out) (by omega)).mono ?_
                    rw [HHigh.out]
                    rintro e w7 ⟨rfl, hb7⟩
                    have HB7 : Hid (Below w.heap.size w w7) := (HBs.out.below.trans (HB6.out.mono HBs.out.below.size)).trans (hb7.mono (HBs.out.below.trans (HB6.out.mono HBs.out.below.size)).size)
                    clear hb7
                    go_wp2_with fail
                    go_ret
                    exact ⟨rfl, HB7.out⟩

end Go.Proofs.Qxb6002590a
