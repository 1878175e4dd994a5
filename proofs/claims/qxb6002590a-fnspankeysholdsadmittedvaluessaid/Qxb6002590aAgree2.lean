import Derived.Test.Qxb6002590aAgree
namespace Go.Proofs.Qxb6002590a
open Go.RowKit Plain

theorem fail_parts {ln le : Bool} {pre lo : List Int} (h : failL ln le pre lo = true) : ln = false ∧ le = true ∧ ffL (pre ++ lo) = true := by
  unfold failL at h
  rw [afterL_isNone] at h
  revert h; cases ln <;> cases le <;> simp

/-- The two concatenations, from the view of a call. -/
theorem cat_at (a1 : Option Addr) (c1 : Nat) (l1 : List Int) (a2 : Option Addr) (c2 : Nat) (l2 pl : List Int) (w : World) (h1 : Arg w a1 c1 l1) (h2 : Arg w a2 c2 l2) (hpl : l1 ++ l2 = pl) :
    Calls Try.prog 15 #[.slice a1 l1.length c1, .slice a2 l2.length c2] w fun e w' => ∃ ad c, e = .returned (.slice ad pl.length c) ∧ View w' ad pl ∧ Below w.heap.size w w' := by
  subst hpl
  refine (cat_any a1 c1 l1 a2 c2 l2 w h1.view h2.view (by have := h1.len; omega) (by have := h2.len; omega)).mono ?_
  rintro e w' ⟨rfl, hv, hb⟩
  exact ⟨_, l1.length + l2.length, by rw [List.length_append], hv, hb⟩

set_option maxHeartbeats 2000000 in
set_option maxRecDepth 100000 in
theorem agree_fail (a1 a2 a3 ak : Option Addr) (c1 c2 c3 ck : Nat) (lo hi pre k : List Int) (le he pn : Bool) (w : World) (h1 : Arg w a1 c1 lo) (h2 : Arg w a2 c2 hi) (h3 : Arg w a3 c3 pre) (hf : failL a1.isNone le pre lo = true) :
    Calls Try.prog 10 #[.agg #[.pointer none, .pointer none, .bool false, .int .i64 0], .bool false, .slice a3 pre.length c3, .bool pn, .slice a1 lo.length c1, .slice a2 hi.length c2, .bool le, .bool he, .slice ak k.length ck] w
      fun e w' => e = .returned (.bool true) ∧ Below w.heap.size w w' := by
  obtain ⟨e1, rfl, hff⟩ := fail_parts hf
  have hq1 := fun w => run_neq_slice_nil_any (P := Try.prog) w 22 5 a1 lo.length c1 0 0 Try.underlying22
  rw [e1] at hq1
  simp only [Bool.not_false] at hq1
  have hb0 : Below w.heap.size w (w.alloc (.cells #[.pointer none, .pointer none, .bool false, .int .i64 0] 27)) := (Below.refl _ _).alloc (Nat.le_refl _) _
  have hh := heap_alloc_new w (.cells #[.pointer none, .pointer none, .bool false, .int .i64 0] 27)
  obtain ⟨pl, hpl⟩ : ∃ pl, pre ++ lo = pl := ⟨_, rfl⟩
  obtain ⟨ph, hph⟩ : ∃ ph, pre ++ hi = ph := ⟨_, rfl⟩
  rw [hpl] at hff
  have hpll : pl.length ≤ 2097152 := by rw [← hpl, List.length_append]; have := h1.len; have := h3.len; omega
  have HA : Hid (Arg w a1 c1 lo ∧ Arg w a2 c2 hi ∧ Arg w a3 c3 pre ∧ pre ++ lo = pl ∧ pre ++ hi = ph ∧ ffL pl = true ∧ Below w.heap.size w (w.alloc (.cells #[.pointer none, .pointer none, .bool false, .int .i64 0] 27))) := ⟨h1, h2, h3, hpl, hph, hff, hb0⟩
  have HH : Hid _ := hh
  clear h1 h2 h3 hpl hph hff hb0 hh e1 hf
  go_enter Try.func10, Try.ntmps10
  go_wp2_with fail
  refine (cat_at a3 c3 pre a1 c1 lo pl _ (HA.out.2.2.1.later HA.out.2.2.2.2.2.2) (HA.out.1.later HA.out.2.2.2.2.2.2) HA.out.2.2.2.1).mono ?_
  rintro e w1 ⟨ad1, d1, rfl, hv1, hb1⟩
  have HB : Hid (View w1 ad1 pl ∧ Below w.heap.size w w1) := ⟨hv1, HA.out.2.2.2.2.2.2.trans (hb1.mono (by simp))⟩
  have HH1 : Hid _ := (hb1.block w.heap.size (by simp)).trans HH.out
  clear hv1 hb1
  go_wp2_with fail
  refine (cat_at a3 c3 pre a2 c2 hi ph _ (HA.out.2.2.1.later HB.out.2) (HA.out.2.1.later HB.out.2) HA.out.2.2.2.2.1).mono ?_
  rintro e w2 ⟨ad2, d2, rfl, hv2, hb2⟩
  have HB2 : Hid (View w2 ad1 pl ∧ Below w.heap.size w w2) := ⟨HB.out.1.below hb2, HB.out.2.trans (hb2.mono HB.out.2.size)⟩
  have hh2 := (hb2.block w.heap.size (lt_of_heap HH1.out)).trans HH1.out
  have cb0 : w2.cell? ⟨w.heap.size, 0, none⟩ = some (.pointer none) := by rw [cell_of_row w2 _ _ _ _ _ hh2]; rfl
  have cb1 : w2.cell? ⟨w.heap.size, 1, none⟩ = some (.pointer none) := by rw [cell_of_row w2 _ _ _ _ _ hh2]; rfl
  have cb2 : w2.cell? ⟨w.heap.size, 2, none⟩ = some (.bool false) := by rw [cell_of_row w2 _ _ _ _ _ hh2]; rfl
  have cb3 : w2.cell? ⟨w.heap.size, 3, none⟩ = some (.int .i64 0) := by rw [cell_of_row w2 _ _ _ _ _ hh2]; rfl
  clear hv2 hb2 hh2
  go_wp2_with fail
  refine (allFF_any ad1 d1 pl w2 HB2.out.1 (by omega)).mono ?_
  rw [HA.out.2.2.2.2.2.1]
  rintro e w' ⟨rfl, rfl⟩
  go_wp2_with fail
  go_ret
  exact ⟨rfl, HB2.out.2⟩

end Go.Proofs.Qxb6002590a
