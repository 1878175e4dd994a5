import Derived.Test.Qxb6600828aDest
namespace Go.Proofs.Qxb6600828a
open Go.RowKit Plain

/-- The table of balances as far as it is made. -/
def Tab (l : List Int) (i m : Nat) (ys : List Value) : Prop := ys.length = l.length + 1 ∧ ∀ t, t ≤ m → ys[i + t]? = some (.int .i64 (bal l i t))

theorem Tab.start {l : List Int} {i : Nat} (hi : i ≤ l.length) : Tab l i 0 (List.replicate (l.length + 1) (.int .i64 0)) := by
  refine ⟨by simp, fun t ht => ?_⟩
  have e : t = 0 := by omega
  subst e
  rw [List.getElem?_replicate, if_pos (by omega)]; rfl
theorem Tab.step {l : List Int} {i m : Nat} {ys : List Value} (h : Tab l i m ys) (hl : i + m < l.length) (d : Int) (hd : bal l i m + dl l i m = d) : Tab l i (m + 1) (ys.set (i + m + 1) (.int .i64 d)) := by
  refine ⟨by simpa using h.1, fun t ht => ?_⟩
  rw [List.getElem?_set]
  by_cases e : t = m + 1
  · subst e
    rw [if_pos (by omega), if_pos (by rw [h.1]; omega)]
    rw [bal, hd]
  · rw [if_neg (by omega)]; exact h.2 t (by omega)

def EndAt (l : List Int) (i m : Nat) : Prop := i + m ≤ l.length ∧ (∀ t, t < m → stopB l i t = false) ∧ (i + m = l.length ∨ stopB l i m = true)

set_option maxHeartbeats 4000000 in
set_option maxRecDepth 100000 in
theorem dest_bare (ad : Option Addr) (c : Nat) (l : List Int) (i : Nat) (w : World) (hv : View w ad l) (hn : l.length ≤ 1048576) (hi : i ≤ l.length) (h60 : ¬ (i < l.length ∧ l.getD i 0 = 60)) :
    Calls Try.prog 13 #[.slice ad l.length c, .int .i64 i] w fun e w' => DestPost l i w e w' := by
  have HV : Hid (View w ad l) := hv
  have HS : Hid (∀ r, Bare l i r → Sc l i r) := fun r h => by unfold Sc; rw [if_neg h60]; exact h
  clear hv
  obtain ⟨i0, hi0, hz0, hz1, hz2⟩ := info_parts Try.info3
  have SB : Hid (i0.bytes * (l.length + 1) ≤ 281474976710656 ∧ l.length + 1 ≤ maxLen) := ⟨by rw [hz2]; omega, by unfold maxLen; omega⟩
  go_enter Try.func13, Try.ntmps13
  go_upto_region 2 with (fail)
  go_cut [29] (fun v wc => v = .bool false ∧ w = wc)
  case first =>
    by_cases hin : i < l.length
    · obtain ⟨b, off, rfl, hc⟩ := HV.out i hin
      have hx : ((l[i]) == 60) = false := by
        rw [beq_eq_false_iff_ne]; intro e; exact h60 ⟨hin, by rw [getD_of hin]; exact e⟩
      generalize l[i] = x at hc hx
      clear h60
      go_wp2_with fail
      go_meet
      case rel => exact ⟨rfl, rfl⟩
    · have hd : decide ((i : Int) < (l.length : Int)) = false := decide_eq_false (by omega)
      go_wp2_with fail
      go_meet
      case rel => exact ⟨rfl, rfl⟩
  case rest =>
    obtain ⟨rfl, rfl⟩ := hcut
    clear h60
    go_wp2_with fail
    refine (esc27 ad c l i w HV.out hn hi).mono ?_
    rintro e w1 ⟨rfl, hbv, hbl⟩
    have H1 : Hid (BView w1 w.heap.size l.length (marks l i) ∧ Below w.heap.size w w1) := ⟨hbv, hbl⟩
    have hgw : w.heap.size ≤ w1.heap.size := hbl.size
    clear hbv hbl
    go_wp2_with (refine wpList_make_full _ rfl _ _ 43 rfl w1.heap.size 3 i0 (.int .i64 0) 1 Try.underlying43 hi0 hz0 hz1 .i64 .i64 _ _ (l.length + 1) rfl rfl (by omega) (by omega) SB.out.1 SB.out.2 (Nat.le_refl _) ?_)
    intro w2 hown hgrow
    have X0 : Hid (∃ ys, w2.ownsRow w1.heap.size 3 1 (.slice (some ⟨w1.heap.size, 0, none⟩) (l.length + 1) (l.length + 1)) (l.length + 1) ys ∧ Tab l i 0 ys ∧ Below w1.heap.size w1 w2) := by
      refine ⟨_, hown, ?_, (Below.refl _ _).grown hgrow (Nat.le_refl _) (by simp)⟩
      rw [makes_one]; exact Tab.start hi
    clear hown hgrow
    go_upto_block 2 with (fail)
    go_cut [] (fun wc => Hid ((∀ t, i + t ≤ l.length → wc.cell? ⟨w1.heap.size, i + t, none⟩ = some (.int .i64 (bal l i t))) ∧ Below w1.heap.size w1 wc))
    case first =>
      go_wp2_with fail
      go_loopw [13] (fun k wr => ∃ (m : Nat) (ys : List Value), i + m ≤ l.length ∧ k = .int .i64 ((i + m : Nat) : Int) ∧ Hid (wr.ownsRow w1.heap.size 3 1 (.slice (some ⟨w1.heap.size, 0, none⟩) (l.length + 1) (l.length + 1)) (l.length + 1) ys) ∧ Hid (Tab l i m ys) ∧ Hid (Below w1.heap.size w1 wr)) (fun k _ => l.length - (intOf k).toNat)
      case atStart =>
        obtain ⟨ys, h1, h2, h3⟩ := X0.out
        exact ⟨0, ys, by omega, rfl, h1, h2, h3⟩
      case round =>
        obtain ⟨m, ys, hm, rfl, ho, ht, hb⟩ := hrel
        by_cases hlt : i + m < l.length
        · obtain ⟨b, off, rfl, hc⟩ := HV.out (i + m) hlt
          have gx : Hid (l.getD (i + m) 0 = l[i + m]) := getD_of hlt
          have hcr := cell_later hb.out (cell_later H1.out.2 hc)
          generalize l[i + m] = x at hcr hc gx
          have hce := cell_later hb.out (H1.out.1 (i + m) hlt)
          rw [marks_at] at hce
          have hbk : wr.cell? ⟨w1.heap.size, i + m, none⟩ = some (.int .i64 (bal l i m)) := by
            rw [ho.out.cellAt (i + m) (by omega)]; exact ht.out.2 m (Nat.le_refl _)
          have hbb := bal_le l i m
          obtain ⟨old, hold⟩ : ∃ old, wr.cell? ⟨w1.heap.size, i + m + 1, none⟩ = some old := by
            rw [ho.out.cellAt (i + m + 1) (by omega)]
            exact ⟨_, List.getElem?_eq_getElem (by have := ho.out.1; omega)⟩
          have hfz := ho.out.frozenAt (i + m + 1)
          have NEXT : Hid (∀ d, bal l i m + dl l i m = d → Hid ((wr.setCell ⟨w1.heap.size, i + m + 1, none⟩ (.int .i64 d)).ownsRow w1.heap.size 3 1 (.slice (some ⟨w1.heap.size, 0, none⟩) (l.length + 1) (l.length + 1)) (l.length + 1) (ys.set (i + m + 1) (.int .i64 d))) ∧ Hid (Tab l i (m + 1) (ys.set (i + m + 1) (.int .i64 d))) ∧ Hid (Below w1.heap.size w1 (wr.setCell ⟨w1.heap.size, i + m + 1, none⟩ (.int .i64 d)))) :=
            fun d hd => ⟨(ho.out.stored (i + m + 1) (.int .i64 d)).1, ht.out.step hlt d hd, hb.out.setCell (Nat.le_refl _) _⟩
          clear hc ho ht hb
          generalize hbv : bal l i m = bv at hbk hbb NEXT
          have HBV : Hid _ := hbv
          clear hbv
          cases hmk : mk l i m with
          | true =>
            rw [hmk] at hce
            have X : Hid _ := NEXT.out bv (by rw [dl_mk hmk]; omega)
            clear hmk
            go_wp2_with fail
            go_roundw
            case rel => exact ⟨m + 1, _, by omega, by go_num, X.out⟩
            case measure => simp [intOf]; omega
          | false =>
            rw [hmk] at hce
            by_cases e40 : x = 40
            · subst e40
              have X : Hid _ := NEXT.out (bv + 1) (by rw [dl_open hmk gx.out])
              clear hmk
              go_wp2_with fail
              go_roundw
              case rel => exact ⟨m + 1, _, by omega, by go_num, X.out⟩
              case measure => simp [intOf]; omega
            · have d40 : (x == 40) = false := by simp [e40]
              by_cases e41 : x = 41
              · subst e41
                have X : Hid _ := NEXT.out (bv + -1) (by rw [dl_shut hmk gx.out])
                clear hmk e40
                go_wp2_with fail
                go_roundw
                case rel => exact ⟨m + 1, _, by omega, by go_num, X.out⟩
                case measure => simp [intOf]; omega
              · have d41 : (x == 41) = false := by simp [e41]
                have X : Hid _ := NEXT.out bv (by rw [dl_other (by rw [gx.out]; exact e40) (by rw [gx.out]; exact e41)]; omega)
                clear hmk e40 e41
                go_wp2_with fail
                go_roundw
                case rel => exact ⟨m + 1, _, by omega, by go_num, X.out⟩
                case measure => simp [intOf]; omega
        · have X : Hid ((∀ t, i + t ≤ l.length → wr.cell? ⟨w1.heap.size, i + t, none⟩ = some (.int .i64 (bal l i t))) ∧ Below w1.heap.size w1 wr) := by
            refine ⟨fun t h => ?_, hb.out⟩
            rw [ho.out.cellAt (i + t) (by omega)]; exact ht.out.2 t (by omega)
          clear ho ht hb
          go_wp2_with fail
          go_meet
          case rel => exact X
    case rest =>
      obtain ⟨w3, hw3⟩ : ∃ w3, w3 = wc := ⟨wc, rfl⟩
      subst hw3
      have HT : Hid (∀ t, i + t ≤ l.length → w3.cell? ⟨w1.heap.size, i + t, none⟩ = some (.int .i64 (bal l i t))) := hcut.out.1
      have HB : Hid (Below w1.heap.size w1 w3 ∧ Below w.heap.size w w3) := ⟨hcut.out.2, H1.out.2.trans (hcut.out.2.mono H1.out.2.size)⟩
      clear hcut X0
      go_upto_block 4 with (fail)
      go_cut [15] (fun v wx => ∃ m : Nat, v = .int .i64 ((i + m : Nat) : Int) ∧ Hid (EndAt l i m) ∧ w3 = wx)
      case first =>
        go_wp2_with fail
        go_loop [15, 16] (fun e k => ∃ m : Nat, i + m ≤ l.length ∧ e = .int .i64 (l.length : Int) ∧ k = .int .i64 ((i + m : Nat) : Int) ∧ Hid (∀ t, t < m → stopB l i t = false)) (fun _ k => l.length - (intOf k).toNat)
        case atStart => exact ⟨0, by omega, rfl, rfl, fun t ht => by omega⟩
        case round =>
          obtain ⟨m, hm, rfl, rfl, hst⟩ := hrel
          by_cases hlt : i + m < l.length
          · obtain ⟨b, off, rfl, hc⟩ := HV.out (i + m) hlt
            have gx : Hid (l.getD (i + m) 0 = l[i + m]) := getD_of hlt
            have hcr := cell_later HB.out.2 hc
            generalize l[i + m] = x at hcr hc gx
            have hce := cell_later HB.out.1 (H1.out.1 (i + m) hlt)
            rw [marks_at] at hce
            have hbk := HT.out m hm
            have hbb := bal_le l i m
            generalize hbv : bal l i m = bv at hbk hbb
            have HBV : Hid _ := hbv
            clear hbv hc
            cases hmk : mk l i m with
            | true =>
              rw [hmk] at hce
              have X : Hid (∀ t, t < m + 1 → stopB l i t = false) := lt_snoc hst.out (stop_mk hmk)
              clear hmk hst
              go_wp2_with fail
              go_round
              case rel => exact ⟨m + 1, by omega, rfl, by go_num, X⟩
              case measure => simp [intOf]; omega
            | false =>
              rw [hmk] at hce
              have HM : Hid _ := hmk
              clear hmk
              cases hbl : blankB x with
              | true =>
                have X : Hid (EndAt l i m) := ⟨hm, hst.out, .inr (stop_blank gx.out HM.out hbl)⟩
                have CP : Hid (∀ wx, Calls Try.prog 28 #[.int .u8 x] wx fun e w' => e = .returned (.bool true) ∧ w' = wx) := fun wx => by have := blank28 x wx; rw [hbl] at this; exact this
                clear hbl hst
                go_wp2_with (go_at_call 28; refine (CP.out _).mono ?_; rintro e w' ⟨rfl, rfl⟩)
                go_meet
                case rel => exact ⟨m, by go_num, X, rfl⟩
              | false =>
                have CP : Hid (∀ wx, Calls Try.prog 28 #[.int .u8 x] wx fun e w' => e = .returned (.bool false) ∧ w' = wx) := fun wx => by have := blank28 x wx; rw [hbl] at this; exact this
                by_cases e41 : x = 41
                · subst e41
                  by_cases hz : bv = 0
                  · have X : Hid (EndAt l i m) := ⟨hm, hst.out, .inr (stop_shut gx.out HM.out (HBV.out.trans hz))⟩
                    have hzb : (bv == 0) = true := by simp [hz]
                    clear hbl hst hz
                    go_wp2_with (go_at_call 28; refine (CP.out _).mono ?_; rintro e w' ⟨rfl, rfl⟩)
                    go_meet
                    case rel => exact ⟨m, by go_num, X, rfl⟩
                  · have X : Hid (∀ t, t < m + 1 → stopB l i t = false) := lt_snoc hst.out (stop_deep gx.out (by rw [HBV.out]; exact hz))
                    have hzb : (bv == 0) = false := by simp [hz]
                    clear hbl hst hz
                    go_wp2_with (go_at_call 28; refine (CP.out _).mono ?_; rintro e w' ⟨rfl, rfl⟩)
                    go_round
                    case rel => exact ⟨m + 1, by omega, rfl, by go_num, X⟩
                    case measure => simp [intOf]; omega
                · have X : Hid (∀ t, t < m + 1 → stopB l i t = false) := lt_snoc hst.out (stop_no gx.out hbl e41)
                  have d41 : (x == 41) = false := by simp [e41]
                  clear hbl hst e41
                  go_wp2_with (go_at_call 28; refine (CP.out _).mono ?_; rintro e w' ⟨rfl, rfl⟩)
                  go_round
                  case rel => exact ⟨m + 1, by omega, rfl, by go_num, X⟩
                  case measure => simp [intOf]; omega
          · have X : Hid (EndAt l i m) := ⟨hm, hst.out, .inl (by omega)⟩
            have hil : l.length ≤ i + m := by omega
            clear hst
            go_wp2_with fail
            go_meet
            case rel => exact ⟨m, by go_num, X, rfl⟩
      case rest =>
        obtain ⟨m, rfl, HE, rfl⟩ := hcut
        have hml := HE.out.1
        have hbk := HT.out m hml
        have hbb := bal_le l i m
        generalize hbv : bal l i m = bv at hbk hbb
        have HBV : Hid _ := hbv
        clear hbv
        by_cases hm0 : m = 0
        · have X : Hid (Bare l i none) := ⟨m, HE.out.1, HE.out.2.1, HE.out.2.2, .inl ⟨rfl, .inl hm0⟩⟩
          have hm1 : m < 1 := by omega
          clear hm0
          go_wp2_with fail
          exact bodyPost_ret (v := .tuple #[.int .i64 0, .int .i64 0, .int .i64 0, .bool false]) (by simp [results, Try.results13, go_sem]) rfl ⟨.inl ⟨HS.out _ X.out, rfl⟩, HB.out.2⟩
        have hmp : 0 < m := by omega
        by_cases hz : bv = 0
        · have HZ : Hid (bal l i m = 0) := HBV.out.trans hz
          have hzb : (bv != 0) = false := by simp [hz]
          clear hz
          go_wp2_with fail
          go_loop [17] (fun k => ∃ t : Nat, t ≤ m + 1 ∧ k = .int .i64 ((i + t : Nat) : Int) ∧ Hid (∀ u, u < t → bal l i u ≤ 32)) (fun k => l.length + 1 - (intOf k).toNat)
          case atStart => exact ⟨0, by omega, rfl, fun u hu => by omega⟩
          case round =>
            obtain ⟨t, ht, rfl, hle⟩ := hrel
            by_cases htm : t ≤ m
            · have hbt := HT.out t (by omega)
              have hbb2 := bal_le l i t
              generalize hbv2 : bal l i t = bt at hbt hbb2
              have HBT : Hid _ := hbv2
              clear hbv2
              by_cases h32 : 32 < bt
              · have X : Hid (Bare l i none) := ⟨m, HE.out.1, HE.out.2.1, HE.out.2.2, .inl ⟨rfl, .inr (.inr ⟨t, htm, by rw [HBT.out]; exact h32⟩)⟩⟩
                clear hle
                go_wp2_with fail
                exact bodyPost_ret (v := .tuple #[.int .i64 0, .int .i64 0, .int .i64 0, .bool false]) (by simp [results, Try.results13, go_sem]) rfl ⟨.inl ⟨HS.out _ X.out, rfl⟩, HB.out.2⟩
              · have X : Hid (∀ u, u < t + 1 → bal l i u ≤ 32) := by
                  intro u hu
                  by_cases e : u = t
                  · rw [e, HBT.out]; omega
                  · exact hle.out u (by omega)
                clear hle
                go_wp2_with fail
                go_round
                case rel => exact ⟨t + 1, by omega, by go_num, X⟩
                case measure => simp [intOf]; omega
            · have X : Hid (Bare l i (some (i, i + m, i + m))) := ⟨m, HE.out.1, HE.out.2.1, HE.out.2.2, .inr ⟨rfl, hm0, HZ.out, fun u hu => hle.out u (by omega)⟩⟩
              clear hle
              go_wp2_with fail
              exact bodyPost_ret (v := .tuple #[.int .i64 (i : Int), .int .i64 ((i + m : Nat) : Int), .int .i64 ((i + m : Nat) : Int), .bool true]) (by simp [results, Try.results13, go_sem]) rfl ⟨.inr ⟨i, i + m, i + m, HS.out _ X.out, rfl⟩, HB.out.2⟩
        · have X : Hid (Bare l i none) := ⟨m, HE.out.1, HE.out.2.1, HE.out.2.2, .inl ⟨rfl, .inr (.inl (by rw [HBV.out]; exact hz))⟩⟩
          have hzb : (bv != 0) = true := by simp [hz]
          clear hz
          go_wp2_with fail
          exact bodyPost_ret (v := .tuple #[.int .i64 0, .int .i64 0, .int .i64 0, .bool false]) (by simp [results, Try.results13, go_sem]) rfl ⟨.inl ⟨HS.out _ X.out, rfl⟩, HB.out.2⟩

end Go.Proofs.Qxb6600828a
