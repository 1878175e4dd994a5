import Derived.Test.Qxb6002590aKeys
namespace Go.Proofs.Qxb6002590a
open Go.RowKit Plain

theorem four_below {w wf : World} {N g : Nat} (h : Below N w wf) (hg : N ≤ g) (y0 y1 y2 y3 : Value) : Below N w ((((wf.setCell ⟨g, 0, none⟩ y0).setCell ⟨g, 1, none⟩ y1).setCell ⟨g, 2, none⟩ y2).setCell ⟨g, 3, none⟩ y3) :=
  (((h.setCell hg _).setCell hg _).setCell hg _).setCell hg _

set_option maxHeartbeats 2000000 in
set_option maxRecDepth 100000 in
theorem span_any (a1 a2 a3 : Option Addr) (c1 c2 c3 : Nat) (lo hi pre : List Int) (le he nr : Bool) (w : World) (h1 : Arg w a1 c1 lo) (h2 : Arg w a2 c2 hi) (h3 : Arg w a3 c3 pre) :
    Calls Try.prog 9 #[.slice a1 lo.length c1, .slice a2 hi.length c2, .bool le, .bool he, .bool nr, .slice a3 pre.length c3] w fun e w' => KeysPost w a1.isNone a2.isNone a3.isNone le he lo hi pre e w' := by
  have HA : Hid (Arg w a1 c1 lo ∧ Arg w a2 c2 hi ∧ Arg w a3 c3 pre) := ⟨h1, h2, h3⟩
  clear h1 h2 h3
  go_enter Try.func9, Try.ntmps9
  go_wp2_with fail
  have hb0 : Below w.heap.size w (w.alloc (.cells #[.pointer none, .pointer none, .bool false, .int .i64 0] 27)) := (Below.refl _ _).alloc (Nat.le_refl _) _
  have hh := heap_alloc_new w (.cells #[.pointer none, .pointer none, .bool false, .int .i64 0] 27)
  refine (keys_any a1 a2 a3 c1 c2 c3 lo hi pre le he nr _ (HA.out.1.later hb0) (HA.out.2.1.later hb0) (HA.out.2.2.later hb0)).mono ?_
  rintro e w1 ⟨hk, hb⟩
  have hh1 := (hb.block w.heap.size (by simp)).trans hh
  have hbw : Below w.heap.size w w1 := hb0.trans (hb.mono (by simp))
  clear hh hb0
  rcases hk with ⟨hf, rfl⟩ | ⟨hf, p1, p2, rfl, hb1, hb2⟩
  · have HH : Hid _ := And.intro hf (And.intro hh1 hbw)
    have cb0 : w1.cell? ⟨w.heap.size, 0, none⟩ = some (.pointer none) := by rw [cell_of_row w1 _ _ _ _ _ hh1]; rfl
    have cb1 : w1.cell? ⟨w.heap.size, 1, none⟩ = some (.pointer none) := by rw [cell_of_row w1 _ _ _ _ _ hh1]; rfl
    have cb2 : w1.cell? ⟨w.heap.size, 2, none⟩ = some (.bool false) := by rw [cell_of_row w1 _ _ _ _ _ hh1]; rfl
    have cb3 : w1.cell? ⟨w.heap.size, 3, none⟩ = some (.int .i64 0) := by rw [cell_of_row w1 _ _ _ _ _ hh1]; rfl
    have fb0 : w1.frozen? ⟨w.heap.size, 0, none⟩ = false := frozen_of_row w1 _ _ _ _ hh1
    have fb1 : w1.frozen? ⟨w.heap.size, 1, none⟩ = false := frozen_of_row w1 _ _ _ _ hh1
    have fb2 : w1.frozen? ⟨w.heap.size, 2, none⟩ = false := frozen_of_row w1 _ _ _ _ hh1
    have fb3 : w1.frozen? ⟨w.heap.size, 3, none⟩ = false := frozen_of_row w1 _ _ _ _ hh1
    clear hf hh1 hbw hb
    go_wp2_with fail
    refine bodyPost_ret (v := .tuple #[.agg #[.pointer none, .pointer none, .bool false, .int .i64 0], .bool false]) (by obtain ⟨r0, r1, r2, r3⟩ := four_set HH.out.2.1 (.pointer none) (.pointer none) (.bool false) (.int .i64 0); simp [results, Try.results9, go_sem, r0, r1, r2, r3]) rfl
      ⟨.inl ⟨HH.out.1, rfl⟩, four_below HH.out.2.2 (Nat.le_refl _) _ _ _ _⟩
  · obtain ⟨q1, rfl⟩ := bound_ptr hb1
    obtain ⟨q2, rfl⟩ := bound_ptr hb2
    have HH : Hid _ := And.intro hf (And.intro hh1 (And.intro hbw (And.intro hb1 hb2)))
    have cb0 : w1.cell? ⟨w.heap.size, 0, none⟩ = some (.pointer none) := by rw [cell_of_row w1 _ _ _ _ _ hh1]; rfl
    have cb1 : w1.cell? ⟨w.heap.size, 1, none⟩ = some (.pointer none) := by rw [cell_of_row w1 _ _ _ _ _ hh1]; rfl
    have cb2 : w1.cell? ⟨w.heap.size, 2, none⟩ = some (.bool false) := by rw [cell_of_row w1 _ _ _ _ _ hh1]; rfl
    have cb3 : w1.cell? ⟨w.heap.size, 3, none⟩ = some (.int .i64 0) := by rw [cell_of_row w1 _ _ _ _ _ hh1]; rfl
    have fb0 : w1.frozen? ⟨w.heap.size, 0, none⟩ = false := frozen_of_row w1 _ _ _ _ hh1
    have fb1 : w1.frozen? ⟨w.heap.size, 1, none⟩ = false := frozen_of_row w1 _ _ _ _ hh1
    have fb2 : w1.frozen? ⟨w.heap.size, 2, none⟩ = false := frozen_of_row w1 _ _ _ _ hh1
    have fb3 : w1.frozen? ⟨w.heap.size, 3, none⟩ = false := frozen_of_row w1 _ _ _ _ hh1
    clear hf hh1 hbw hb hb1 hb2
    go_wp2_with fail
    refine bodyPost_ret (v := .tuple #[.agg #[.pointer q1, .pointer q2, .bool false, .int .i64 0], .bool true]) (by obtain ⟨r0, r1, r2, r3⟩ := four_set HH.out.2.1 (.pointer q1) (.pointer q2) (.bool false) (.int .i64 0); simp [results, Try.results9, go_sem, r0, r1, r2, r3]) rfl
      ⟨.inr ⟨HH.out.1, _, _, rfl, HH.out.2.2.2.1.away HH.out.2.1 (four_away _ _ _ _ _ _), HH.out.2.2.2.2.away HH.out.2.1 (four_away _ _ _ _ _ _)⟩, four_below HH.out.2.2.1 (Nat.le_refl _) _ _ _ _⟩

end Go.Proofs.Qxb6002590a
