import Derived.Test.Qxb6002590aAgree3
namespace Go.Proofs.Qxb6002590a
open Go.RowKit Plain

/-- A slice that came in, as the walks take it. -/
theorem row_view {w : World} {a : Option Addr} {len cap : Nat} {zs : List Int}
    (h : (a = none ∧ len = 0 ∧ cap = 0 ∧ zs = []) ∨ ∃ x, a = some x ∧ len ≤ cap ∧ cap ≤ maxLen ∧ zs.length = cap ∧ (∀ i, i < zs.length → w.cell? (x.add i) = some (.int .u8 (zs.getD i 0))) ∧ ∀ n ∈ zs, (Lit.int .u8 n).wf = true) :
    ∃ l : List Int, l.length = len ∧ len ≤ 9223372036854775807 ∧ View w a l ∧ (a = none → l = [] ∧ cap = 0) ∧ Byt l := by
  rcases h with ⟨rfl, rfl, rfl, rfl⟩ | ⟨x, rfl, hlc, hcm, hz, hc, hwf⟩
  · exact ⟨[], rfl, by omega, view_nil _ _, fun _ => ⟨rfl, rfl⟩, by intro x hx; simp at hx⟩
  · refine ⟨zs.take len, by simp; omega, by unfold maxLen at hcm; omega, ?_, by intro e; simp at e, ?_⟩
    · intro j hj
      have hj' : j < zs.length := by simp at hj; omega
      obtain ⟨b, off, spot⟩ := x
      have hspot : spot = none := by simpa [Addr.add] using World.cell?_spot (hc 0 (by omega))
      subst hspot
      refine ⟨b, off, rfl, ?_⟩
      have := hc j hj'
      rw [Addr.add_lit] at this
      rw [this]
      simp [hj']
    · intro y hy
      have := hwf y (List.mem_of_mem_take hy)
      simp [Lit.wf] at this
      exact this

set_option maxHeartbeats 1000000 in
theorem bytes7 (a0 a1 a5 a6 : Option Addr) (n0 n1 n5 n6 c0 c1 c5 c6 : Nat) (x y z : Bool) (w : World) (h0 : n0 ≤ 9223372036854775807) (h1 : n1 ≤ 9223372036854775807) (h5 : n5 ≤ 9223372036854775807) (h6 : n6 ≤ 9223372036854775807) :
    Calls Try.prog 7 #[.slice a0 n0 c0, .slice a1 n1 c1, .bool x, .bool y, .bool z, .slice a5 n5 c5, .slice a6 n6 c6] w fun e w' => (∃ b, e = .returned (.bool b) ∧ (b = true → n0 + n1 + n5 + n6 ≤ 1048576)) ∧ w' = w := by
  go_enter Try.func7, Try.ntmps7
  go_wp2
  all_goals
    go_ret
    first
    | exact ⟨⟨false, rfl, by simp⟩, rfl⟩
    | exact ⟨⟨true, rfl, by intro; omega⟩, rfl⟩


theorem clone_at (ad : Option Addr) (c : Nat) (l : List Int) (w : World) (h : Arg w ad c l) :
    Calls Try.prog 8 #[.slice ad l.length c] w fun e w' => ∃ ad' c', e = .returned (.slice ad' l.length c') ∧ ad'.isNone = ad.isNone ∧ Arg w' ad' c' l ∧ Below w.heap.size w w' := by
  refine (clone_any ad c l w h.view (fun e => (h.nil e).1) (by have := h.len; omega)).mono ?_
  rintro e w' ⟨ad', c', rfl, hn, hz, hv, hb⟩
  refine ⟨ad', c', rfl, hn, ⟨hv, fun e => ⟨?_, hz e⟩, h.byt, h.len⟩, hb⟩
  subst e
  exact (h.nil (by simpa using hn.symm)).1

set_option maxHeartbeats 2000000 in
set_option maxRecDepth 100000 in
theorem exact_walk (a0 a1 a5 a6 : Option Addr) (c0 c1 c5 c6 : Nat) (l0 l1 l5 l6 : List Int) (le he nr : Bool) (w : World)
    (h0 : l0.length ≤ 9223372036854775807) (h1 : l1.length ≤ 9223372036854775807) (h5 : l5.length ≤ 9223372036854775807) (h6 : l6.length ≤ 9223372036854775807)
    (g0 : View w a0 l0 ∧ (a0 = none → l0 = [] ∧ c0 = 0) ∧ Byt l0) (g1 : View w a1 l1 ∧ (a1 = none → l1 = [] ∧ c1 = 0) ∧ Byt l1) (g5 : View w a5 l5 ∧ (a5 = none → l5 = [] ∧ c5 = 0) ∧ Byt l5) (g6 : View w a6 l6 ∧ (a6 = none → l6 = [] ∧ c6 = 0) ∧ Byt l6) :
    Calls Try.prog 3 #[.slice a0 l0.length c0, .slice a1 l1.length c1, .bool le, .bool he, .bool nr, .slice a5 l5.length c5, .slice a6 l6.length c6] w fun e w' => e = .returned (.bool true) ∧ Below w.heap.size w w' := by
  have HG : Hid _ := And.intro g0 (And.intro g1 (And.intro g5 g6))
  clear g0 g1 g5 g6
  go_enter Try.func3, Try.ntmps3
  go_wp2_with fail
  refine (bytes7 a0 a1 a5 a6 _ _ _ _ c0 c1 c5 c6 le he nr w h0 h1 h5 h6).mono ?_
  rintro e w' ⟨⟨b, rfl, hb⟩, rfl⟩
  cases b with
  | false =>
    clear hb
    go_wp2_with fail
    go_ret
    exact ⟨rfl, Below.refl _ _⟩
  | true =>
    have hsum := hb rfl
    clear hb
    by_cases t0 : 65536 < l0.length
    · go_wp2_with fail
      go_ret
      exact ⟨rfl, Below.refl _ _⟩
    by_cases t1 : 65536 < l1.length
    · go_wp2_with fail
      go_ret
      exact ⟨rfl, Below.refl _ _⟩
    by_cases t5 : 65536 < l5.length
    · go_wp2_with fail
      go_ret
      exact ⟨rfl, Below.refl _ _⟩
    by_cases t6 : 65536 < l6.length
    · go_wp2_with fail
      go_ret
      exact ⟨rfl, Below.refl _ _⟩
    have HA : Hid (Arg w' a0 c0 l0 ∧ Arg w' a1 c1 l1 ∧ Arg w' a5 c5 l5 ∧ Arg w' a6 c6 l6) :=
      ⟨⟨HG.out.1.1, HG.out.1.2.1, HG.out.1.2.2, by omega⟩, ⟨HG.out.2.1.1, HG.out.2.1.2.1, HG.out.2.1.2.2, by omega⟩, ⟨HG.out.2.2.1.1, HG.out.2.2.1.2.1, HG.out.2.2.1.2.2, by omega⟩, ⟨HG.out.2.2.2.1, HG.out.2.2.2.2.1, HG.out.2.2.2.2.2, by omega⟩⟩
    clear HG
    go_wp2_with fail
    refine (clone_at a0 c0 l0 w' HA.out.1).mono ?_
    rintro e w1 ⟨b0, d0, rfl, n0, hA0, hb1⟩
    have H1 : Hid (Arg w1 b0 d0 l0 ∧ Below w'.heap.size w' w1) := ⟨hA0, hb1⟩
    have N0 : Hid _ := n0
    clear hA0 hb1 n0
    go_wp2_with fail
    refine (clone_at a1 c1 l1 w1 (HA.out.2.1.later H1.out.2)).mono ?_
    rintro e w2 ⟨b1, d1, rfl, n1, hA1, hb2⟩
    have H2 : Hid (Arg w2 b0 d0 l0 ∧ Arg w2 b1 d1 l1 ∧ Below w'.heap.size w' w2) := ⟨H1.out.1.later hb2, hA1, H1.out.2.trans (hb2.mono H1.out.2.size)⟩
    have N1 : Hid _ := n1
    clear hA1 hb2 n1
    go_wp2_with fail
    refine (clone_at a5 c5 l5 w2 (HA.out.2.2.1.later H2.out.2.2)).mono ?_
    rintro e w3 ⟨b5, d5, rfl, n5, hA5, hb3⟩
    have H3 : Hid (Arg w3 b0 d0 l0 ∧ Arg w3 b1 d1 l1 ∧ Arg w3 b5 d5 l5 ∧ Below w'.heap.size w' w3) := ⟨H2.out.1.later hb3, H2.out.2.1.later hb3, hA5, H2.out.2.2.trans (hb3.mono H2.out.2.2.size)⟩
    have N5 : Hid _ := n5
    clear hA5 hb3 n5
    go_wp2_with fail
    refine (clone_at a6 c6 l6 w3 (HA.out.2.2.2.later H3.out.2.2.2)).mono ?_
    rintro e w4 ⟨b6, d6, rfl, n6, hA6, hb4⟩
    have H4 : Hid (Arg w4 b0 d0 l0 ∧ Arg w4 b1 d1 l1 ∧ Arg w4 b5 d5 l5 ∧ Arg w4 b6 d6 l6 ∧ Below w'.heap.size w' w4) := ⟨H3.out.1.later hb4, H3.out.2.1.later hb4, H3.out.2.2.1.later hb4, hA6, H3.out.2.2.2.trans (hb4.mono H3.out.2.2.2.size)⟩
    clear hA6 hb4 n6
    have hq5 := fun w => Lib.run_eql_slice_nil (P := Try.prog) w 22 5 b5 l5.length d5 0 0 Try.underlying22
    go_wp2_with fail
    refine (span_any b0 b1 b5 d0 d1 d5 l0 l1 l5 le he nr w4 H4.out.1 H4.out.2.1 H4.out.2.2.1).mono ?_
    rintro e w5 ⟨hk, hb5⟩
    have H5 : Hid (Arg w5 b0 d0 l0 ∧ Arg w5 b1 d1 l1 ∧ Arg w5 b5 d5 l5 ∧ Arg w5 b6 d6 l6 ∧ Below w'.heap.size w' w5) := ⟨H4.out.1.later hb5, H4.out.2.1.later hb5, H4.out.2.2.1.later hb5, H4.out.2.2.2.1.later hb5, H4.out.2.2.2.2.trans (hb5.mono H4.out.2.2.2.2.size)⟩
    clear hb5
    rcases hk with ⟨hf, rfl⟩ | ⟨hf, p1, p2, rfl, hb1, hb2⟩
    · have HF : Hid _ := hf
      clear hf
      go_wp2_with fail
      have hbx : Below w5.heap.size w5 (w5.alloc (.cells #[.pointer none, .pointer none, .bool false, .int .i64 0] 27)) := (Below.refl _ _).alloc (Nat.le_refl _) _
      refine (agree_fail b0 b1 b5 b6 d0 d1 d5 d6 l0 l1 l5 l6 le he b5.isNone _ (H5.out.1.later hbx) (H5.out.2.1.later hbx) (H5.out.2.2.1.later hbx) HF.out).mono ?_
      rintro e w6 ⟨rfl, hb6⟩
      have HB6 : Hid (Below w'.heap.size w' w6) := (H5.out.2.2.2.2.trans (hbx.mono H5.out.2.2.2.2.size)).trans (hb6.mono (H5.out.2.2.2.2.trans (hbx.mono H5.out.2.2.2.2.size)).size)
      clear hb6 hbx
      go_wp2_with fail
      go_ret
      exact ⟨rfl, HB6.out⟩
    · obtain ⟨q1, rfl⟩ := bound_ptr hb1
      obtain ⟨q2, rfl⟩ := bound_ptr hb2
      have HF : Hid _ := And.intro hf (And.intro hb1 hb2)
      clear hf hb1 hb2
      go_wp2_with fail
      have hbx : Below w5.heap.size w5 (w5.alloc (.cells #[.pointer q1, .pointer q2, .bool false, .int .i64 0] 27)) := (Below.refl _ _).alloc (Nat.le_refl _) _
      refine (agree_ok b0 b1 b5 b6 d0 d1 d5 d6 l0 l1 l5 l6 le he q1 q2 _ (H5.out.1.later hbx) (H5.out.2.1.later hbx) (H5.out.2.2.1.later hbx) (H5.out.2.2.2.1.later hbx) HF.out.1 (HF.out.2.1.later hbx) (HF.out.2.2.later hbx)).mono ?_
      rintro e w6 ⟨rfl, hb6⟩
      have HB6 : Hid (Below w'.heap.size w' w6) := (H5.out.2.2.2.2.trans (hbx.mono H5.out.2.2.2.2.size)).trans (hb6.mono (H5.out.2.2.2.2.trans (hbx.mono H5.out.2.2.2.2.size)).size)
      clear hb6 hbx
      go_wp2_with fail
      go_ret
      exact ⟨rfl, HB6.out⟩

end Go.Proofs.Qxb6002590a
