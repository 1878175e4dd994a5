import Derived.Test.Qxb6002590aHolds
import Derived.Deep.RegionWith
namespace Go.Proofs.Qxb6002590a
open Go.RowKit Plain

theorem holds_plain {ln hn pn le he : Bool} {lo hi pre v t : List Int} (hv : Byt v) (hk : Byt (pre ++ (v ++ t))) (n1 : ln = true → lo = []) (n2 : hn = true → hi = []) (n3 : pn = true → pre = [])
    (ha : admitsL ln hn le he v lo hi = true) (f1 : freeL ln v lo = true) (f2 : freeL hn v hi = true) :
    failL ln le pre lo = false ∧ aboveB (lowerL ln le pn pre lo) (pre ++ (v ++ t)) = true ∧ belowB (upperL hn he pn pre hi) (pre ++ (v ++ t)) = true := by
  have hf : failL ln le pre lo = false := by
    unfold failL
    rw [afterL_isNone]
    cases ln with
    | true => rfl
    | false =>
      cases hle : le with
      | false => rfl
      | true => rw [no_fail hv (by have := admits_low ha rfl; rw [hle] at this; exact this) (free_parts f1 rfl) rfl]; rfl
  refine ⟨hf, ?_, ?_⟩
  · rw [low_agree hk hf n1 n3]
    exact low_holds n1 (fun e => admits_low ha e) (fun e => free_parts f1 e) pre
  · rw [high_agree hk n2 n3]
    exact high_holds n2 (fun e => admits_high ha e) (fun e => free_parts f2 e) pre

/-- The world behind the making of r, and whatever is laid later. -/
def Later (vB : World) (g : Nat) (q1 q2 : Option Addr) (wx : World) : Prop :=
  wx.cell? ⟨g, 0, none⟩ = some (.pointer q1) ∧ wx.cell? ⟨g, 1, none⟩ = some (.pointer q2) ∧ wx.cell? ⟨g, 2, none⟩ = some (.bool false) ∧ wx.cell? ⟨g, 3, none⟩ = some (.int .i64 0) ∧ Hid (Below vB.heap.size vB wx)

theorem Later.mk {vB wx : World} {g : Nat} {q1 q2 : Option Addr} (h : vB.heap[g]? = some (.cells #[.pointer q1, .pointer q2, .bool false, .int .i64 0] 27 (0, 0))) (hb : Below vB.heap.size vB wx) : Later vB g q1 q2 wx := by
  have hh := (hb.block g (lt_of_heap h)).trans h
  refine ⟨?_, ?_, ?_, ?_, hb⟩ <;> rw [cell_of_row wx _ _ _ _ _ hh] <;> rfl

theorem cat_later {vB : World} {g : Nat} {q1 q2 : Option Addr} (hg : vB.heap[g]? = some (.cells #[.pointer q1, .pointer q2, .bool false, .int .i64 0] 27 (0, 0))) {a1 : Option Addr} {c1 : Nat} {l1 : List Int} {a2 : Option Addr} {c2 : Nat} {l2 pl : List Int} (wx : World) (hb : Hid (Below vB.heap.size vB wx)) (h1 : Hid (View wx a1 l1)) (h2 : Hid (View vB a2 l2)) (hl1 : l1.length ≤ 1048576) (hl2 : l2.length ≤ 1048576) (hpl : Hid (l1 ++ l2 = pl)) :
    Calls Try.prog 15 #[.slice a1 l1.length c1, .slice a2 l2.length c2] wx fun e w' => ∃ ad c, e = .returned (.slice ad pl.length c) ∧ Hid (View w' ad pl) ∧ Later vB g q1 q2 w' := by
  obtain rfl := hpl.out
  refine (cat_any a1 c1 l1 a2 c2 l2 wx h1.out (h2.out.below hb.out) (by omega) (by omega)).mono ?_
  rintro e w' ⟨rfl, hv, hb'⟩
  exact ⟨_, l1.length + l2.length, by rw [List.length_append], hv, Later.mk hg (hb.out.trans (hb'.mono hb.out.size))⟩

set_option maxHeartbeats 4000000 in
set_option maxRecDepth 100000 in
theorem holds_walk (a0 a1 a5 a6 a7 : Option Addr) (c0 c1 c5 c6 c7 : Nat) (l0 l1 l5 l6 l7 : List Int) (le he nr : Bool) (w : World)
    (h0 : l0.length ≤ 9223372036854775807) (h1 : l1.length ≤ 9223372036854775807) (h5 : l5.length ≤ 9223372036854775807) (h6 : l6.length ≤ 9223372036854775807) (h7 : l7.length ≤ 9223372036854775807)
    (g0 : View w a0 l0 ∧ (a0 = none → l0 = [] ∧ c0 = 0) ∧ Byt l0) (g1 : View w a1 l1 ∧ (a1 = none → l1 = [] ∧ c1 = 0) ∧ Byt l1) (g5 : View w a5 l5 ∧ (a5 = none → l5 = [] ∧ c5 = 0) ∧ Byt l5) (g6 : View w a6 l6 ∧ (a6 = none → l6 = [] ∧ c6 = 0) ∧ Byt l6) (g7 : View w a7 l7 ∧ (a7 = none → l7 = [] ∧ c7 = 0) ∧ Byt l7) :
    Calls Try.prog 4 #[.slice a0 l0.length c0, .slice a1 l1.length c1, .bool le, .bool he, .bool nr, .slice a5 l5.length c5, .slice a6 l6.length c6, .slice a7 l7.length c7] w fun e w' => e = .returned (.bool true) ∧ Below w.heap.size w w' := by
  have HG : Hid _ := And.intro g0 (And.intro g1 (And.intro g5 (And.intro g6 g7)))
  clear g0 g1 g5 g6 g7
  go_enter Try.func4, Try.ntmps4
  go_wp2_with fail
  refine (bytes11 a0 a1 a5 a6 a7 _ _ _ _ _ c0 c1 c5 c6 c7 le he nr w h0 h1 h5 h6 h7).mono ?_
  rintro e w' ⟨⟨b, rfl, hb⟩, rfl⟩
  cases b with
  | false =>
    clear hb
    go_wp2_with fail
    go_ret
    exact ⟨rfl, Below.refl _ _⟩
  | true =>
    have hsum := hb rfl
    clear hb
    by_cases t0 : 65536 < l0.length
    · go_wp2_with fail
      go_ret
      exact ⟨rfl, Below.refl _ _⟩
    by_cases t1 : 65536 < l1.length
    · go_wp2_with fail
      go_ret
      exact ⟨rfl, Below.refl _ _⟩
    by_cases t5 : 65536 < l5.length
    · go_wp2_with fail
      go_ret
      exact ⟨rfl, Below.refl _ _⟩
    by_cases t6 : 65536 < l6.length
    · go_wp2_with fail
      go_ret
      exact ⟨rfl, Below.refl _ _⟩
    by_cases t7 : 65536 < l7.length
    · go_wp2_with fail
      go_ret
      exact ⟨rfl, Below.refl _ _⟩
    have HA : Hid (Arg w' a0 c0 l0 ∧ Arg w' a1 c1 l1 ∧ Arg w' a5 c5 l5 ∧ Arg w' a6 c6 l6 ∧ Arg w' a7 c7 l7) :=
      ⟨⟨HG.out.1.1, HG.out.1.2.1, HG.out.1.2.2, by omega⟩, ⟨HG.out.2.1.1, HG.out.2.1.2.1, HG.out.2.1.2.2, by omega⟩, ⟨HG.out.2.2.1.1, HG.out.2.2.1.2.1, HG.out.2.2.1.2.2, by omega⟩, ⟨HG.out.2.2.2.1.1, HG.out.2.2.2.1.2.1, HG.out.2.2.2.1.2.2, by omega⟩, ⟨HG.out.2.2.2.2.1, HG.out.2.2.2.2.2.1, HG.out.2.2.2.2.2.2, by omega⟩⟩
    clear HG
    go_wp2_with fail
    refine (admits_any a6 c6 l6 a0 c0 l0 a1 c1 l1 le he w' HA.out.2.2.2.1.view HA.out.1.view HA.out.2.1.view h6).mono ?_
    rintro e w0 ⟨rfl, n0, rfl⟩
    cases ead : admitsL a0.isNone a1.isNone le he l6 l0 l1 with
    | false =>
      clear ead
      go_wp2_with fail
      go_ret
      exact ⟨rfl, below_drewN (Below.refl _ _) _⟩
    | true =>
      have HAD : Hid _ := ead
      clear ead
      go_wp2_with fail
      refine (free_any a6 c6 l6 a0 c0 l0 _ (by exact HA.out.2.2.2.1.view) (by exact HA.out.1.view) h6 h0).mono ?_
      rintro e w0 ⟨rfl, n1, rfl⟩
      cases ef1 : freeL a0.isNone l6 l0 with
      | false =>
        clear ef1
        go_wp2_with fail
        go_ret
        exact ⟨rfl, below_drewN (Below.refl _ _) _⟩
      | true =>
        have HF1 : Hid _ := ef1
        clear ef1
        go_wp2_with fail
        refine (free_any a6 c6 l6 a1 c1 l1 _ (by exact HA.out.2.2.2.1.view) (by exact HA.out.2.1.view) h6 h1).mono ?_
        rintro e w0 ⟨rfl, n2, rfl⟩
        cases ef2 : freeL a1.isNone l6 l1 with
        | false =>
          clear ef2
          go_wp2_with fail
          go_ret
          exact ⟨rfl, below_drewN (Below.refl _ _) _⟩
        | true =>
          have HF2 : Hid _ := ef2
          clear ef2
          go_wp2_with fail
          have hA1 : Arg (w'.drewN (n0 + n1 + n2)) a0 c0 l0 ∧ Arg (w'.drewN (n0 + n1 + n2)) a1 c1 l1 ∧ Arg (w'.drewN (n0 + n1 + n2)) a5 c5 l5 ∧ Arg (w'.drewN (n0 + n1 + n2)) a6 c6 l6 ∧ Arg (w'.drewN (n0 + n1 + n2)) a7 c7 l7 ∧ Below w'.heap.size w' (w'.drewN (n0 + n1 + n2)) := by
            have hb := below_drewN (Below.refl w'.heap.size w') (n0 + n1 + n2)
            exact ⟨HA.out.1.later hb, HA.out.2.1.later hb, HA.out.2.2.1.later hb, HA.out.2.2.2.1.later hb, HA.out.2.2.2.2.later hb, hb⟩
          clear HA
          generalize w'.drewN (n0 + n1 + n2) = v0 at hA1 ⊢
          have H0 : Hid _ := hA1
          clear hA1
          refine (clone_at a0 c0 l0 v0 H0.out.1).mono ?_
          rintro e v1 ⟨b0, d0, rfl, m0, hA0, hb1⟩
          have H1 : Hid (Arg v1 b0 d0 l0 ∧ Below v0.heap.size v0 v1) := ⟨hA0, hb1⟩
          have N0 : Hid _ := m0
          clear hA0 hb1 m0
          go_wp2_with fail
          refine (clone_at a1 c1 l1 v1 (H0.out.2.1.later H1.out.2)).mono ?_
          rintro e v2 ⟨b1, d1, rfl, m1, hA1, hb2⟩
          have H2 : Hid (Arg v2 b0 d0 l0 ∧ Arg v2 b1 d1 l1 ∧ Below v0.heap.size v0 v2) := ⟨H1.out.1.later hb2, hA1, H1.out.2.trans (hb2.mono H1.out.2.size)⟩
          have N1 : Hid _ := m1
          clear hA1 hb2 m1
          go_wp2_with fail
          refine (clone_at a5 c5 l5 v2 (H0.out.2.2.1.later H2.out.2.2)).mono ?_
          rintro e v3 ⟨b5, d5, rfl, m5, hA5, hb3⟩
          have H3 : Hid (Arg v3 b0 d0 l0 ∧ Arg v3 b1 d1 l1 ∧ Arg v3 b5 d5 l5 ∧ Below v0.heap.size v0 v3) := ⟨H2.out.1.later hb3, H2.out.2.1.later hb3, hA5, H2.out.2.2.trans (hb3.mono H2.out.2.2.size)⟩
          have N5 : Hid _ := m5
          clear hA5 hb3 m5
          go_wp2_with fail
          refine (clone_at a6 c6 l6 v3 (H0.out.2.2.2.1.later H3.out.2.2.2)).mono ?_
          rintro e v4 ⟨b6, d6, rfl, m6, hA6, hb4⟩
          have H4 : Hid (Arg v4 b0 d0 l0 ∧ Arg v4 b1 d1 l1 ∧ Arg v4 b5 d5 l5 ∧ Arg v4 b6 d6 l6 ∧ Below v0.heap.size v0 v4) := ⟨H3.out.1.later hb4, H3.out.2.1.later hb4, H3.out.2.2.1.later hb4, hA6, H3.out.2.2.2.trans (hb4.mono H3.out.2.2.2.size)⟩
          clear hA6 hb4 m6
          go_wp2_with fail
          refine (clone_at a7 c7 l7 v4 (H0.out.2.2.2.2.1.later H4.out.2.2.2.2)).mono ?_
          rintro e v5 ⟨b7, d7, rfl, m7, hA7, hb5⟩
          have H5 : Hid (Arg v5 b0 d0 l0 ∧ Arg v5 b1 d1 l1 ∧ Arg v5 b5 d5 l5 ∧ Arg v5 b6 d6 l6 ∧ Arg v5 b7 d7 l7 ∧ Below v0.heap.size v0 v5) := ⟨H4.out.1.later hb5, H4.out.2.1.later hb5, H4.out.2.2.1.later hb5, H4.out.2.2.2.1.later hb5, hA7, H4.out.2.2.2.2.trans (hb5.mono H4.out.2.2.2.2.size)⟩
          clear hA7 hb5 m7
          go_wp2_with fail
          refine (span_any b0 b1 b5 d0 d1 d5 l0 l1 l5 le he nr v5 H5.out.1 H5.out.2.1 H5.out.2.2.1).mono ?_
          rintro e v6 ⟨hk, hb6⟩
          have hpl := holds_plain (ln := b0.isNone) (hn := b1.isNone) (pn := b5.isNone) (le := le) (he := he) (t := l7) (pre := l5) H5.out.2.2.2.1.byt (byt_append H5.out.2.2.1.byt (byt_append H5.out.2.2.2.1.byt H5.out.2.2.2.2.1.byt)) (fun e => (H5.out.1.nil (by simpa using e)).1) (fun e => (H5.out.2.1.nil (by simpa using e)).1) (fun e => (H5.out.2.2.1.nil (by simpa using e)).1) (by rw [N0.out, N1.out]; exact HAD.out) (by rw [N0.out]; exact HF1.out) (by rw [N1.out]; exact HF2.out)
          rcases hk with ⟨hf, rfl⟩ | ⟨hf, p1, p2, rfl, hb1, hb2⟩
          · rw [hpl.1] at hf; simp at hf
          · obtain ⟨q1, rfl⟩ := bound_ptr hb1
            obtain ⟨q2, rfl⟩ := bound_ptr hb2
            have H6 : Hid (Arg v6 b5 d5 l5 ∧ Arg v6 b6 d6 l6 ∧ Arg v6 b7 d7 l7 ∧ BoundIs v6 (.pointer q1) false (lowerL b0.isNone le b5.isNone l5 l0) ∧ BoundIs v6 (.pointer q2) true (upperL b1.isNone he b5.isNone l5 l1) ∧ Below w'.heap.size w' v6) := ⟨H5.out.2.2.1.later hb6, H5.out.2.2.2.1.later hb6, H5.out.2.2.2.2.1.later hb6, hb1, hb2, H0.out.2.2.2.2.2.trans ((H5.out.2.2.2.2.2.trans (hb6.mono H5.out.2.2.2.2.2.size)).mono H0.out.2.2.2.2.2.size)⟩
            have HPL : Hid _ := hpl.2
            clear hf hb1 hb2 hpl hb6
            go_wp2_with fail
            have hbx : Below v6.heap.size v6 (v6.alloc (.cells #[.pointer q1, .pointer q2, .bool false, .int .i64 0] 27)) := (Below.refl _ _).alloc (Nat.le_refl _) _
            have hgx := heap_alloc_new v6 (.cells #[.pointer q1, .pointer q2, .bool false, .int .i64 0] 27)
            have H7 : Hid _ := And.intro hgx (And.intro (H6.out.1.later hbx) (And.intro (H6.out.2.1.later hbx) (And.intro (H6.out.2.2.1.later hbx) (And.intro (H6.out.2.2.2.1.later hbx) (And.intro (H6.out.2.2.2.2.1.later hbx) (H6.out.2.2.2.2.2.trans (hbx.mono H6.out.2.2.2.2.2.size)))))))
            generalize v6.alloc (.cells #[.pointer q1, .pointer q2, .bool false, .int .i64 0] 27) = vB at H7 ⊢
            clear hbx hgx H6 H5 H4 H3 H2 H1 H0 N0 N1 N5 HAD HF1 HF2
            obtain ⟨pv, hpv⟩ : ∃ pv, l5 ++ l6 = pv := ⟨_, rfl⟩
            obtain ⟨key, hkey⟩ : ∃ key, pv ++ l7 = key := ⟨_, rfl⟩
            have hek : l5 ++ (l6 ++ l7) = key := by rw [← hkey, ← hpv, List.append_assoc]
            rw [hek] at HPL
            have hpvl : pv.length ≤ 1048576 := by rw [← hpv, List.length_append]; omega
            have hkl : key.length ≤ 1048576 := by rw [← hek, List.length_append, List.length_append]; omega
            have HK : Hid (l5 ++ l6 = pv) := hpv
            have HK2 : Hid (pv ++ l7 = key) := hkey
            clear hpv hkey hek
            generalize lowerL b0.isNone le b5.isNone l5 l0 = o1 at HPL H7
            generalize upperL b1.isNone he b5.isNone l5 l1 = o2 at HPL H7
            have hl5 : l5.length ≤ 1048576 := by omega
            have hl6 : l6.length ≤ 1048576 := by omega
            have hl7 : l7.length ≤ 1048576 := by omega
            obtain ⟨y0, y1, y2, y3, _⟩ := Later.mk H7.out.1 (Below.refl vB.heap.size vB)
            have V5 : Hid (View vB b5 l5) := H7.out.2.1.view
            have V6 : Hid (View vB b6 l6) := H7.out.2.2.1.view
            have V7 : Hid (View vB b7 l7) := H7.out.2.2.2.1.view
            have CC : Hid (∀ wx ad c, Hid (Below vB.heap.size vB wx) → Hid (View wx ad key) → Calls Try.prog 14 #[.agg #[.pointer q1, .pointer q2, .bool false, .int .i64 0], .slice ad key.length c] wx fun e w' => e = .returned (.bool true) ∧ Hid (Below vB.heap.size vB w')) := by
              intro wx ad c hb hv
              refine (inRange_any q1 q2 o1 o2 ad c key wx (H7.out.2.2.2.2.1.later hb.out) (H7.out.2.2.2.2.2.1.later hb.out) hv.out (by omega) HPL.out.1 HPL.out.2).mono ?_
              rintro e w2 ⟨rfl, hb2⟩
              exact ⟨rfl, hb.out.trans (hb2.mono hb.out.size)⟩
            go_region_with (first
              | (go_at_call_of 15 (Value.slice b5 l5.length d5); refine (cat_later (c1 := d5) (c2 := d6) H7.out.1 _ ?_ ?_ V6 hl5 hl6 HK).mono ?_; exact below_drewN (Below.refl _ _) 1; exact V5; rintro e x1 ⟨ad, c, rfl, hx1, z0, z1, z2, z3, hz⟩)
              | (go_at_call_of 15 (Value.slice b7 l7.length d7); refine (cat_later (c2 := d7) H7.out.1 _ ?_ ?_ V7 hpvl hl7 HK2).mono ?_; assumption; assumption; rintro e x2 ⟨ad2, c2, rfl, hx2, z0, z1, z2, z3, hz2⟩)
              | (go_at_call 14; refine (CC.out _ _ _ ?_ ?_).mono ?_; assumption; assumption; rintro e x3 ⟨rfl, hx3⟩))
            all_goals
              go_wp2_with fail
              go_ret
              exact ⟨rfl, H7.out.2.2.2.2.2.2.trans (hx3.out.mono H7.out.2.2.2.2.2.2.size)⟩

end Go.Proofs.Qxb6002590a
