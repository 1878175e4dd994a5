import Derived.Test.Qxb6002590aAfter
import Derived.Deep.CutBlock
import Derived.Deep.DeepCutAuto
namespace Go.Proofs.Qxb6002590a
open Go.RowKit Plain

/-- The three blocks that 'keys' lays: the boxed span, the result's cell, the variable r. -/
structure Mid (N : Nat) (wc : World) (lo hi : Value) (le he nr : Bool) (p1 p2 : Value) : Prop where
  h0 : wc.heap[N]? = some (.cells #[lo, hi, .bool le, .bool he, .bool nr] 49 (0, 0))
  h1 : wc.heap[N + 1]? = some (.cells #[.pointer none, .pointer none, .bool false, .int .i64 0] 27 (0, 0))
  h2 : wc.heap[N + 1 + 1]? = some (.cells #[p1, p2, .bool false, .int .i64 0] 27 (0, 0))

theorem Mid.start (w : World) (lo hi : Value) (le he nr : Bool) :
    Mid w.heap.size (((w.alloc (.cells #[lo, hi, .bool le, .bool he, .bool nr] 49)).alloc (.cells #[.pointer none, .pointer none, .bool false, .int .i64 0] 27)).alloc (.cells #[.pointer none, .pointer none, .bool false, .int .i64 0] 27)) lo hi le he nr (.pointer none) (.pointer none) := by
  refine ⟨?_, ?_, ?_⟩
  · rw [Below.heap_alloc _ _ _ (by simp; omega), Below.heap_alloc _ _ _ (by simp)]; exact heap_alloc_new _ _
  · rw [Below.heap_alloc _ _ _ (by simp)]
    have := heap_alloc_new (w.alloc (.cells #[lo, hi, .bool le, .bool he, .bool nr] 49)) (.cells #[.pointer none, .pointer none, .bool false, .int .i64 0] 27)
    simpa using this
  · have := heap_alloc_new ((w.alloc (.cells #[lo, hi, .bool le, .bool he, .bool nr] 49)).alloc (.cells #[.pointer none, .pointer none, .bool false, .int .i64 0] 27)) (.cells #[.pointer none, .pointer none, .bool false, .int .i64 0] 27)
    simpa using this

theorem lt_of_heap {w : World} {k : Nat} {o : Obj} (h : w.heap[k]? = some o) : k < w.heap.size := (Array.getElem?_eq_some_iff.1 h).1

theorem Mid.lt {N : Nat} {wc : World} {lo hi p1 p2 : Value} {le he nr : Bool} (h : Mid N wc lo hi le he nr p1 p2) : N + 2 < wc.heap.size := lt_of_heap h.h2

theorem Mid.later {N : Nat} {wc w1 : World} {lo hi p1 p2 : Value} {le he nr : Bool} (h : Mid N wc lo hi le he nr p1 p2) (hb : Below wc.heap.size wc w1) : Mid N w1 lo hi le he nr p1 p2 :=
  ⟨(hb.block _ (lt_of_heap h.h0)).trans h.h0, (hb.block _ (lt_of_heap h.h1)).trans h.h1, (hb.block _ (lt_of_heap h.h2)).trans h.h2⟩

theorem Mid.set0 {N : Nat} {wc : World} {lo hi p1 p2 : Value} {le he nr : Bool} (h : Mid N wc lo hi le he nr p1 p2) (p : Value) : Mid N (wc.setCell ⟨N + 1 + 1, 0, none⟩ p) lo hi le he nr p p2 :=
  ⟨(Below.heap_setCell _ _ _ _ (by simp; omega)).trans h.h0, (Below.heap_setCell _ _ _ _ (by simp)).trans h.h1, by rw [heap_setCell_same wc _ 0 _ _ p h.h2]; rfl⟩
theorem Mid.set1 {N : Nat} {wc : World} {lo hi p1 p2 : Value} {le he nr : Bool} (h : Mid N wc lo hi le he nr p1 p2) (p : Value) : Mid N (wc.setCell ⟨N + 1 + 1, 1, none⟩ p) lo hi le he nr p1 p :=
  ⟨(Below.heap_setCell _ _ _ _ (by simp; omega)).trans h.h0, (Below.heap_setCell _ _ _ _ (by simp)).trans h.h1, by rw [heap_setCell_same wc _ 1 _ _ p h.h2]; rfl⟩

theorem Mid.a {N : Nat} {wc : World} {lo hi p1 p2 : Value} {le he nr : Bool} (h : Mid N wc lo hi le he nr p1 p2) :
    wc.cell? ⟨N, 0, none⟩ = some lo ∧ wc.cell? ⟨N, 1, none⟩ = some hi ∧ wc.cell? ⟨N, 2, none⟩ = some (.bool le) ∧ wc.cell? ⟨N, 3, none⟩ = some (.bool he) := by
  refine ⟨?_, ?_, ?_, ?_⟩ <;> rw [cell_of_row wc N _ _ _ _ h.h0] <;> rfl
theorem Mid.b {N : Nat} {wc : World} {lo hi p1 p2 : Value} {le he nr : Bool} (h : Mid N wc lo hi le he nr p1 p2) :
    wc.cell? ⟨N + 1, 0, none⟩ = some (.pointer none) ∧ wc.cell? ⟨N + 1, 1, none⟩ = some (.pointer none) ∧ wc.cell? ⟨N + 1, 2, none⟩ = some (.bool false) ∧ wc.cell? ⟨N + 1, 3, none⟩ = some (.int .i64 0) := by
  refine ⟨?_, ?_, ?_, ?_⟩ <;> rw [cell_of_row wc (N + 1) _ _ _ _ h.h1] <;> rfl
theorem Mid.c {N : Nat} {wc : World} {lo hi p1 p2 : Value} {le he nr : Bool} (h : Mid N wc lo hi le he nr p1 p2) :
    wc.cell? ⟨N + 1 + 1, 0, none⟩ = some p1 ∧ wc.cell? ⟨N + 1 + 1, 1, none⟩ = some p2 ∧ wc.cell? ⟨N + 1 + 1, 2, none⟩ = some (.bool false) ∧ wc.cell? ⟨N + 1 + 1, 3, none⟩ = some (.int .i64 0) := by
  refine ⟨?_, ?_, ?_, ?_⟩ <;> rw [cell_of_row wc (N + 1 + 1) _ _ _ _ h.h2] <;> rfl
theorem Mid.fb {N : Nat} {wc : World} {lo hi p1 p2 : Value} {le he nr : Bool} (h : Mid N wc lo hi le he nr p1 p2) :
    wc.frozen? ⟨N + 1, 0, none⟩ = false ∧ wc.frozen? ⟨N + 1, 1, none⟩ = false ∧ wc.frozen? ⟨N + 1, 2, none⟩ = false ∧ wc.frozen? ⟨N + 1, 3, none⟩ = false :=
  ⟨frozen_of_row wc _ _ _ _ h.h1, frozen_of_row wc _ _ _ _ h.h1, frozen_of_row wc _ _ _ _ h.h1, frozen_of_row wc _ _ _ _ h.h1⟩
theorem Mid.fc {N : Nat} {wc : World} {lo hi p1 p2 : Value} {le he nr : Bool} (h : Mid N wc lo hi le he nr p1 p2) :
    wc.frozen? ⟨N + 1 + 1, 0, none⟩ = false ∧ wc.frozen? ⟨N + 1 + 1, 1, none⟩ = false :=
  ⟨frozen_of_row wc _ _ _ _ h.h2, frozen_of_row wc _ _ _ _ h.h2⟩

/-- A pointer to a Bound, or nil. -/
def BoundIs (w : World) (p : Value) (excl : Bool) : Option (List Int) → Prop
  | none => p = .pointer none
  | some l => ∃ g ad c, p = .pointer (some ⟨g, 0, none⟩) ∧ w.cell? ⟨g, 0, none⟩ = some (.slice ad l.length c) ∧ w.cell? ⟨g, 1, none⟩ = some (.bool excl) ∧ View w ad l

theorem BoundIs.later {w w1 : World} {p : Value} {x : Bool} {o : Option (List Int)} (h : BoundIs w p x o) (hb : Below w.heap.size w w1) : BoundIs w1 p x o := by
  cases o with
  | none => exact h
  | some l =>
    obtain ⟨g, ad, c, e, h0, h1, hv⟩ := h
    exact ⟨g, ad, c, e, cell_later hb h0, cell_later hb h1, hv.below hb⟩


theorem cell_set_other {w : World} {a : Addr} {u : Value} {b o : Nat} (h : b ≠ a.block) : (w.setCell a u).cell? ⟨b, o, none⟩ = w.cell? ⟨b, o, none⟩ :=
  World.cell?_of_block (w := w) (Below.heap_setCell _ _ _ _ h)

theorem Mid.view_ne {N : Nat} {wc : World} {lo hi : Value} {q1 q2 : Option Addr} {le he nr : Bool} (h : Mid N wc lo hi le he nr (.pointer q1) (.pointer q2)) {ad : Option Addr} {l : List Int} (hv : View wc ad l) (i : Nat) (p : Value) : View (wc.setCell ⟨N + 1 + 1, i, none⟩ p) ad l := by
  intro j hj
  obtain ⟨b, off, e, hc⟩ := hv j hj
  refine ⟨b, off, e, ?_⟩
  rw [cell_set_other ?_, hc]
  rintro rfl
  rw [cell_of_row wc _ _ _ _ _ h.h2] at hc
  have : off + j < 4 := by
    have := (Array.getElem?_eq_some_iff.1 hc).1; simpa using this
  generalize off + j = m at hc this
  match m, this with
  | 0, _ => simp at hc
  | 1, _ => simp at hc
  | 2, _ => simp at hc
  | 3, _ => simp at hc

theorem Mid.bound_ne {N : Nat} {wc : World} {lo hi : Value} {q1 q2 : Option Addr} {le he nr : Bool} (h : Mid N wc lo hi le he nr (.pointer q1) (.pointer q2)) {pv : Value} {x : Bool} {o : Option (List Int)} (hv : BoundIs wc pv x o) (i : Nat) (p : Value) : BoundIs (wc.setCell ⟨N + 1 + 1, i, none⟩ p) pv x o := by
  cases o with
  | none => exact hv
  | some l =>
    obtain ⟨g, ad, c, e, h0, h1, hw⟩ := hv
    have hne : g ≠ N + 1 + 1 := by
      rintro rfl
      rw [h.c.1] at h0
      simp at h0
    exact ⟨g, ad, c, e, by rw [cell_set_other hne]; exact h0, by rw [cell_set_other hne]; exact h1, h.view_ne hw i p⟩

theorem bound_ptr {w : World} {p : Value} {x : Bool} {o : Option (List Int)} (h : BoundIs w p x o) : ∃ q, p = .pointer q := by
  cases o with
  | none => exact ⟨_, h⟩
  | some l => obtain ⟨g, ad, c, e, _⟩ := h; exact ⟨_, e⟩

/-- A Bound that has just been boxed, its address stored into r's field i. -/
theorem Mid.boxed {N : Nat} {wc : World} {lo hi : Value} {q1 q2 : Option Addr} {le he nr : Bool} (h : Mid N wc lo hi le he nr (.pointer q1) (.pointer q2)) {ad : Option Addr} {l : List Int} (hv : View wc ad l) (i : Nat) (p : Value) (c : Nat) (x : Bool) :
    BoundIs ((wc.setCell ⟨N + 1 + 1, i, none⟩ p).alloc (.cells #[.slice ad l.length c, .bool x] 53)) (.pointer (some ⟨wc.heap.size, 0, none⟩)) x (some l) := by
  have hh := heap_alloc_new (wc.setCell ⟨N + 1 + 1, i, none⟩ p) (.cells #[.slice ad l.length c, .bool x] 53)
  have hs : (wc.setCell ⟨N + 1 + 1, i, none⟩ p).heap.size = wc.heap.size := by simp [World.setCell]
  rw [hs] at hh
  refine ⟨wc.heap.size, ad, c, rfl, ?_, ?_, ?_⟩
  · rw [cell_of_row _ _ _ _ _ _ hh]; rfl
  · rw [cell_of_row _ _ _ _ _ _ hh]; rfl
  · exact (h.view_ne hv i p).below ((Below.refl _ _).alloc (Nat.le_refl _) _)

def lowerL (ln le pn : Bool) (pre lo : List Int) : Option (List Int) := if (!ln && le) = true then afterL (pre ++ lo) else if (!ln || !pn) = true then some (pre ++ lo) else none
def upperL (hn he pn : Bool) (pre hi : List Int) : Option (List Int) := if (!hn && he) = true then some (pre ++ hi) else if (!hn || !pn) = true then afterL (pre ++ hi) else none
def failL (ln le : Bool) (pre lo : List Int) : Bool := !ln && le && (afterL (pre ++ lo)).isNone

def KeysPost (w : World) (ln hn pn le he : Bool) (lo hi pre : List Int) (e : Ending) (w' : World) : Prop :=
  ((failL ln le pre lo = true ∧ e = .returned (.tuple #[.agg #[.pointer none, .pointer none, .bool false, .int .i64 0], .bool false])) ∨
   (failL ln le pre lo = false ∧ ∃ p1 p2, e = .returned (.tuple #[.agg #[p1, p2, .bool false, .int .i64 0], .bool true]) ∧ BoundIs w' p1 false (lowerL ln le pn pre lo) ∧ BoundIs w' p2 true (upperL hn he pn pre hi))) ∧ Below w.heap.size w w'

structure Arg (w : World) (a : Option Addr) (c : Nat) (l : List Int) : Prop where
  view : View w a l
  nil : a = none → l = [] ∧ c = 0
  byt : Byt l
  len : l.length ≤ 1048576

theorem Arg.later {w w' : World} {a : Option Addr} {c : Nat} {l : List Int} (h : Arg w a c l) (hb : Below w.heap.size w w') : Arg w' a c l := ⟨h.view.below hb, h.nil, h.byt, h.len⟩

theorem Mid.arg_ne {N : Nat} {wc : World} {lo hi : Value} {q1 q2 : Option Addr} {le he nr : Bool} (h : Mid N wc lo hi le he nr (.pointer q1) (.pointer q2)) {a : Option Addr} {c : Nat} {l : List Int} (hv : Arg wc a c l) (i : Nat) (p : Value) : Arg (wc.setCell ⟨N + 1 + 1, i, none⟩ p) a c l :=
  ⟨h.view_ne hv.view i p, hv.nil, hv.byt, hv.len⟩

theorem boxed0 {w w5 : World} {lo hi : Value} {q1 q2 : Option Addr} {le he nr : Bool} (h : Mid w.heap.size w5 lo hi le he nr (.pointer q1) (.pointer q2)) (hB : Below w.heap.size w w5) {ad : Option Addr} {l : List Int} (hv : View w5 ad l) {a2 a3 : Option Addr} {c2 c3 : Nat} {l2 l3 : List Int} (h2 : Arg w5 a2 c2 l2) (h3 : Arg w5 a3 c3 l3) (c : Nat) (x : Bool) :
    Mid w.heap.size ((w5.setCell ⟨w.heap.size + 1 + 1, 0, none⟩ (.pointer (some ⟨w5.heap.size, 0, none⟩))).alloc (.cells #[.slice ad l.length c, .bool x] 53)) lo hi le he nr (.pointer (some ⟨w5.heap.size, 0, none⟩)) (.pointer q2) ∧
    BoundIs ((w5.setCell ⟨w.heap.size + 1 + 1, 0, none⟩ (.pointer (some ⟨w5.heap.size, 0, none⟩))).alloc (.cells #[.slice ad l.length c, .bool x] 53)) (.pointer (some ⟨w5.heap.size, 0, none⟩)) x (some l) ∧
    Below w.heap.size w ((w5.setCell ⟨w.heap.size + 1 + 1, 0, none⟩ (.pointer (some ⟨w5.heap.size, 0, none⟩))).alloc (.cells #[.slice ad l.length c, .bool x] 53)) ∧
    Arg ((w5.setCell ⟨w.heap.size + 1 + 1, 0, none⟩ (.pointer (some ⟨w5.heap.size, 0, none⟩))).alloc (.cells #[.slice ad l.length c, .bool x] 53)) a2 c2 l2 ∧
    Arg ((w5.setCell ⟨w.heap.size + 1 + 1, 0, none⟩ (.pointer (some ⟨w5.heap.size, 0, none⟩))).alloc (.cells #[.slice ad l.length c, .bool x] 53)) a3 c3 l3 := by
  have hs : (w5.setCell ⟨w.heap.size + 1 + 1, 0, none⟩ (.pointer (some ⟨w5.heap.size, 0, none⟩))).heap.size = w5.heap.size := by simp [World.setCell]
  have ha := (Below.refl _ (w5.setCell ⟨w.heap.size + 1 + 1, 0, none⟩ (.pointer (some ⟨w5.heap.size, 0, none⟩)))).alloc (Nat.le_refl _) (.cells #[.slice ad l.length c, .bool x] 53)
  exact ⟨(h.set0 _).later ha, h.boxed hv 0 _ c x, ((hB.setCell (by simp; omega) _).alloc (by rw [hs]; exact hB.size) _), (h.arg_ne h2 0 _).later ha, (h.arg_ne h3 0 _).later ha⟩

theorem boxed1 {w w5 : World} {lo hi : Value} {q1 q2 : Option Addr} {le he nr : Bool} (h : Mid w.heap.size w5 lo hi le he nr (.pointer q1) (.pointer q2)) (hB : Below w.heap.size w w5) {ad : Option Addr} {l : List Int} (hv : View w5 ad l) {o : Option (List Int)} {y : Bool} (ho : BoundIs w5 (.pointer q1) y o) (c : Nat) (x : Bool) :
    Mid w.heap.size ((w5.setCell ⟨w.heap.size + 1 + 1, 1, none⟩ (.pointer (some ⟨w5.heap.size, 0, none⟩))).alloc (.cells #[.slice ad l.length c, .bool x] 53)) lo hi le he nr (.pointer q1) (.pointer (some ⟨w5.heap.size, 0, none⟩)) ∧
    BoundIs ((w5.setCell ⟨w.heap.size + 1 + 1, 1, none⟩ (.pointer (some ⟨w5.heap.size, 0, none⟩))).alloc (.cells #[.slice ad l.length c, .bool x] 53)) (.pointer (some ⟨w5.heap.size, 0, none⟩)) x (some l) ∧
    BoundIs ((w5.setCell ⟨w.heap.size + 1 + 1, 1, none⟩ (.pointer (some ⟨w5.heap.size, 0, none⟩))).alloc (.cells #[.slice ad l.length c, .bool x] 53)) (.pointer q1) y o ∧
    Below w.heap.size w ((w5.setCell ⟨w.heap.size + 1 + 1, 1, none⟩ (.pointer (some ⟨w5.heap.size, 0, none⟩))).alloc (.cells #[.slice ad l.length c, .bool x] 53)) := by
  have hs : (w5.setCell ⟨w.heap.size + 1 + 1, 1, none⟩ (.pointer (some ⟨w5.heap.size, 0, none⟩))).heap.size = w5.heap.size := by simp [World.setCell]
  have ha := (Below.refl _ (w5.setCell ⟨w.heap.size + 1 + 1, 1, none⟩ (.pointer (some ⟨w5.heap.size, 0, none⟩)))).alloc (Nat.le_refl _) (.cells #[.slice ad l.length c, .bool x] 53)
  exact ⟨(h.set1 _).later ha, h.boxed hv 1 _ c x, (h.bound_ne ho 1 _).later ha, ((hB.setCell (by simp; omega) _).alloc (by rw [hs]; exact hB.size) _)⟩

theorem byt_append {a b : List Int} (h : Byt a) (h2 : Byt b) : Byt (a ++ b) := by
  intro x hx
  rcases List.mem_append.1 hx with h' | h'
  · exact h x h'
  · exact h2 x h'

theorem concat_at (wx : World) (ad1 : Option Addr) (c1 : Nat) (a : List Int) (ad2 : Option Addr) (c2 : Nat) (b pl : List Int) (h1 : Arg wx ad1 c1 a) (h2 : Arg wx ad2 c2 b) (hpl : a ++ b = pl) :
    Calls Try.prog 33 #[.slice (some ⟨wx.heap.size, 0, none⟩) 2 2] (wx.alloc (.cells #[.slice ad1 a.length c1, .slice ad2 b.length c2] 22)) fun e w' => ∃ ad c', e = .returned (.slice ad pl.length c') ∧ pl.length ≤ c' ∧ View w' ad pl ∧ Below wx.heap.size wx w' := by
  subst hpl
  have hb0 : Below wx.heap.size wx (wx.alloc (.cells #[.slice ad1 a.length c1, .slice ad2 b.length c2] 22)) := (Below.refl _ _).alloc (Nat.le_refl _) _
  have hh := heap_alloc_new wx (.cells #[.slice ad1 a.length c1, .slice ad2 b.length c2] 22)
  refine (concat_any wx.heap.size 2 ad1 c1 a ad2 c2 b _ (by rw [cell_of_row _ _ _ _ _ _ hh]; rfl) (by rw [cell_of_row _ _ _ _ _ _ hh]; rfl) (h1.view.below hb0) (h2.view.below hb0) h1.nil h2.nil (by have := h1.len; omega) (by have := h2.len; omega)).mono ?_
  rintro e w' ⟨ad, c', rfl, hl, hv, hb⟩
  exact ⟨ad, c', rfl, hl, hv, hb0.trans (hb.mono (by simp))⟩

/-- Four stores into the result's block: what it holds. -/
theorem four_set {w : World} {g : Nat} {x0 x1 x2 x3 : Value} {t : TypeId} (h : w.heap[g]? = some (.cells #[x0, x1, x2, x3] t (0, 0))) (y0 y1 y2 y3 : Value) :
    ((((w.setCell ⟨g, 0, none⟩ y0).setCell ⟨g, 1, none⟩ y1).setCell ⟨g, 2, none⟩ y2).setCell ⟨g, 3, none⟩ y3).cell? ⟨g, 0, none⟩ = some y0 ∧
    ((((w.setCell ⟨g, 0, none⟩ y0).setCell ⟨g, 1, none⟩ y1).setCell ⟨g, 2, none⟩ y2).setCell ⟨g, 3, none⟩ y3).cell? ⟨g, 1, none⟩ = some y1 ∧
    ((((w.setCell ⟨g, 0, none⟩ y0).setCell ⟨g, 1, none⟩ y1).setCell ⟨g, 2, none⟩ y2).setCell ⟨g, 3, none⟩ y3).cell? ⟨g, 2, none⟩ = some y2 ∧
    ((((w.setCell ⟨g, 0, none⟩ y0).setCell ⟨g, 1, none⟩ y1).setCell ⟨g, 2, none⟩ y2).setCell ⟨g, 3, none⟩ y3).cell? ⟨g, 3, none⟩ = some y3 := by
  have h0 := heap_setCell_same w g 0 _ t y0 h
  have h1 := heap_setCell_same _ g 1 _ t y1 h0
  have h2 := heap_setCell_same _ g 2 _ t y2 h1
  have h3 := heap_setCell_same _ g 3 _ t y3 h2
  refine ⟨?_, ?_, ?_, ?_⟩ <;> rw [cell_of_row _ _ _ _ _ _ h3] <;> rfl

theorem View.away {w w' : World} {g : Nat} {q1 q2 : Option Addr} (h : w.heap[g]? = some (.cells #[.pointer q1, .pointer q2, .bool false, .int .i64 0] 27 (0, 0))) {ad : Option Addr} {l : List Int} (hv : View w ad l) (hw : ∀ k, k ≠ g → w'.heap[k]? = w.heap[k]?) : View w' ad l := by
  intro j hj
  obtain ⟨b, off, e, hc⟩ := hv j hj
  have hne : b ≠ g := by
    rintro rfl
    rw [cell_of_row w _ _ _ _ _ h] at hc
    have : off + j < 4 := by
      have := (Array.getElem?_eq_some_iff.1 hc).1; simpa using this
    generalize off + j = m at hc this
    match m, this with
    | 0, _ => simp at hc
    | 1, _ => simp at hc
    | 2, _ => simp at hc
    | 3, _ => simp at hc
  exact ⟨b, off, e, by rw [World.cell?_of_block (w := w) (hw b hne)]; exact hc⟩

theorem BoundIs.away {w w' : World} {g : Nat} {q1 q2 : Option Addr} (h : w.heap[g]? = some (.cells #[.pointer q1, .pointer q2, .bool false, .int .i64 0] 27 (0, 0))) {p : Value} {x : Bool} {o : Option (List Int)} (hv : BoundIs w p x o) (hw : ∀ k, k ≠ g → w'.heap[k]? = w.heap[k]?) : BoundIs w' p x o := by
  cases o with
  | none => exact hv
  | some l =>
    obtain ⟨k, ad, c, e, h0, h1, hvw⟩ := hv
    have hne : k ≠ g := by
      rintro rfl
      rw [cell_of_row w _ _ _ _ _ h] at h0
      simp at h0
    exact ⟨k, ad, c, e, by rw [World.cell?_of_block (w := w) (hw k hne)]; exact h0, by rw [World.cell?_of_block (w := w) (hw k hne)]; exact h1, hvw.away h hw⟩

theorem four_away (w : World) (g : Nat) (y0 y1 y2 y3 : Value) : ∀ k, k ≠ g → ((((w.setCell ⟨g, 0, none⟩ y0).setCell ⟨g, 1, none⟩ y1).setCell ⟨g, 2, none⟩ y2).setCell ⟨g, 3, none⟩ y3).heap[k]? = w.heap[k]? := by
  intro k hk
  rw [Below.heap_setCell _ _ _ _ hk, Below.heap_setCell _ _ _ _ hk, Below.heap_setCell _ _ _ _ hk, Below.heap_setCell _ _ _ _ hk]

/-- What holds before the last statement, and what then holds at the return. -/
structure Last (w wf : World) (lo hi : Value) (le he nr : Bool) (q1 q2 : Option Addr) (o1 o2 : Option (List Int)) : Prop where
  mid : Mid w.heap.size wf lo hi le he nr (.pointer q1) (.pointer q2)
  b1 : BoundIs wf (.pointer q1) false o1
  b2 : BoundIs wf (.pointer q2) true o2
  below : Below w.heap.size w wf

theorem Last.fin {w wf : World} {lo hi : Value} {le he nr : Bool} {q1 q2 : Option Addr} {o1 o2 : Option (List Int)} (h : Last w wf lo hi le he nr q1 q2 o1 o2) :
    BoundIs ((((wf.setCell ⟨w.heap.size + 1, 0, none⟩ (.pointer q1)).setCell ⟨w.heap.size + 1, 1, none⟩ (.pointer q2)).setCell ⟨w.heap.size + 1, 2, none⟩ (.bool false)).setCell ⟨w.heap.size + 1, 3, none⟩ (.int .i64 0)) (.pointer q1) false o1 ∧
    BoundIs ((((wf.setCell ⟨w.heap.size + 1, 0, none⟩ (.pointer q1)).setCell ⟨w.heap.size + 1, 1, none⟩ (.pointer q2)).setCell ⟨w.heap.size + 1, 2, none⟩ (.bool false)).setCell ⟨w.heap.size + 1, 3, none⟩ (.int .i64 0)) (.pointer q2) true o2 ∧
    Below w.heap.size w ((((wf.setCell ⟨w.heap.size + 1, 0, none⟩ (.pointer q1)).setCell ⟨w.heap.size + 1, 1, none⟩ (.pointer q2)).setCell ⟨w.heap.size + 1, 2, none⟩ (.bool false)).setCell ⟨w.heap.size + 1, 3, none⟩ (.int .i64 0)) :=
  ⟨h.b1.away h.mid.h1 (four_away _ _ _ _ _ _), h.b2.away h.mid.h1 (four_away _ _ _ _ _ _), ((((h.below.setCell (by simp) _).setCell (by simp) _).setCell (by simp) _).setCell (by simp) _)⟩

theorem fail_yes {ln le : Bool} {pre lo : List Int} (h : (!ln && le) = true) (hr : afterL (pre ++ lo) = none) : failL ln le pre lo = true := by unfold failL; rw [h, hr]; rfl
theorem fail_no {ln le : Bool} {pre lo q : List Int} (hr : afterL (pre ++ lo) = some q) : failL ln le pre lo = false := by unfold failL; rw [hr]; simp
theorem fail_no2 {ln le : Bool} {pre lo : List Int} (h : ¬ (!ln && le) = true) : failL ln le pre lo = false := by unfold failL; rw [Bool.not_eq_true] at h; rw [h]; rfl

set_option maxHeartbeats 2000000 in
set_option maxRecDepth 100000 in
theorem keys_any (a1 a2 a3 : Option Addr) (c1 c2 c3 : Nat) (lo hi pre : List Int) (le he nr : Bool) (w : World) (h1 : Arg w a1 c1 lo) (h2 : Arg w a2 c2 hi) (h3 : Arg w a3 c3 pre) :
    Calls Try.prog 24 #[.agg #[.slice a1 lo.length c1, .slice a2 hi.length c2, .bool le, .bool he, .bool nr], .slice a3 pre.length c3] w fun e w' => KeysPost w a1.isNone a2.isNone a3.isNone le he lo hi pre e w' := by
  have hq1 := fun w => run_neq_slice_nil_any (P := Try.prog) w 22 5 a1 lo.length c1 0 0 Try.underlying22
  have hq2 := fun w => run_neq_slice_nil_any (P := Try.prog) w 22 5 a2 hi.length c2 0 0 Try.underlying22
  have hq3 := fun w => run_neq_slice_nil_any (P := Try.prog) w 22 5 a3 pre.length c3 0 0 Try.underlying22
  go_enter Try.func24, Try.ntmps24
  go_upto_block 0 with (fail)
  have hM := Mid.start w (.slice a1 lo.length c1) (.slice a2 hi.length c2) le he nr
  have hB : Below w.heap.size w (((w.alloc (.cells #[.slice a1 lo.length c1, .slice a2 hi.length c2, .bool le, .bool he, .bool nr] 49)).alloc (.cells #[.pointer none, .pointer none, .bool false, .int .i64 0] 27)).alloc (.cells #[.pointer none, .pointer none, .bool false, .int .i64 0] 27)) :=
    (((Below.refl _ _).alloc (Nat.le_refl _) _).alloc (by simp) _).alloc (by simp; omega) _
  generalize (((w.alloc (.cells #[.slice a1 lo.length c1, .slice a2 hi.length c2, .bool le, .bool he, .bool nr] 49)).alloc (.cells #[.pointer none, .pointer none, .bool false, .int .i64 0] 27)).alloc (.cells #[.pointer none, .pointer none, .bool false, .int .i64 0] 27)) = w3 at hM hB ⊢
  have HA : Hid (Arg w3 a1 c1 lo ∧ Arg w3 a2 c2 hi ∧ Arg w3 a3 c3 pre ∧ Mid w.heap.size w3 (.slice a1 lo.length c1) (.slice a2 hi.length c2) le he nr (.pointer none) (.pointer none) ∧ Below w.heap.size w w3) := ⟨h1.later hB, h2.later hB, h3.later hB, hM, hB⟩
  clear h1 h2 h3 hB
  go_cut [] (fun wc => ∃ q1, failL a1.isNone le pre lo = false ∧ Mid w.heap.size wc (.slice a1 lo.length c1) (.slice a2 hi.length c2) le he nr (.pointer q1) (.pointer none) ∧ BoundIs wc (.pointer q1) false (lowerL a1.isNone le a3.isNone pre lo) ∧ Below w.heap.size w wc ∧ Arg wc a2 c2 hi ∧ Arg wc a3 c3 pre)
  case first =>
    obtain ⟨ca0, ca1, ca2, ca3⟩ := hM.a
    obtain ⟨cc0, cc1, cc2, cc3⟩ := hM.c
    obtain ⟨fc0, fc1⟩ := hM.fc
    obtain ⟨cb0, cb1, cb2, cb3⟩ := hM.b
    obtain ⟨fb0, fb1, fb2, fb3⟩ := hM.fb
    have hlt := hM.lt
    clear hM
    by_cases hA : (!a1.isNone && le) = true
    · obtain ⟨hA1, rfl⟩ : a1.isNone = false ∧ le = true := by simpa using hA
      rw [hA1] at hq1
      simp only [Bool.not_false] at hq1
      obtain ⟨pl, hpl⟩ : ∃ pl, pre ++ lo = pl := ⟨_, rfl⟩
      have hplb : Byt pl := by rw [← hpl]; exact byt_append HA.out.2.2.1.byt HA.out.1.byt
      have hpll : pl.length ≤ 2097152 := by rw [← hpl, List.length_append]; have := HA.out.2.2.1.len; have := HA.out.1.len; omega
      have HPL : Hid (pre ++ lo = pl) := hpl
      clear hpl
      rcases hr : afterL pl with _ | q
      · have HR : Hid (afterL pl = none) := hr
        clear hr
        go_wp2_with fail
        refine (concat_at w3 a3 c3 pre a1 c1 lo pl HA.out.2.2.1 HA.out.1 HPL.out).mono ?_
        rintro e w4 ⟨ad, c', rfl, hlc, hv, hb⟩
        have hplb' : Hid (View w4 ad pl ∧ Below w3.heap.size w3 w4) := ⟨hv, hb⟩
        clear hv hb
        go_wp2_with fail
        refine (after_any ad c' pl w4 hplb'.out.1 hplb hlc (by omega)).mono ?_
        rw [HR.out]
        rintro e w5 ⟨ad2, c5, rfl, hv5, hb5⟩
        simp only [Option.getD_none, Option.isSome_none, List.length_nil]
        have hbb : Below w3.heap.size w3 w5 := hplb'.out.2.trans (hb5.mono hplb'.out.2.size)
        obtain ⟨cb0', cb1', cb2', cb3'⟩ := (HA.out.2.2.2.1.later hbb).b
        obtain ⟨fb0', fb1', fb2', fb3'⟩ := (HA.out.2.2.2.1.later hbb).fb
        have HB : Hid (Below w.heap.size w w5) := HA.out.2.2.2.2.trans (hbb.mono HA.out.2.2.2.2.size)
        have HF : Hid _ := four_set (HA.out.2.2.2.1.later hbb).h1 (.pointer none) (.pointer none) (.bool false) (.int .i64 0)
        clear hv5 hb5 hbb ca0 ca1 ca2 ca3 cc0 cc1 cc2 cc3 cb0 cb1 cb2 cb3 fb0 fb1 fb2 fb3 fc0 fc1
        go_wp2_with fail
        refine bodyPost_ret (v := .tuple #[.agg #[.pointer none, .pointer none, .bool false, .int .i64 0], .bool false]) (by obtain ⟨r0, r1, r2, r3⟩ := HF.out; simp [results, Try.results24, go_sem, r0, r1, r2, r3]) rfl
          ⟨.inl ⟨fail_yes hA (by rw [HPL.out]; exact HR.out), rfl⟩, ((((HB.out.setCell (by simp) _).setCell (by simp) _).setCell (by simp) _).setCell (by simp) _)⟩
      · have HR : Hid (afterL pl = some q) := hr
        clear hr
        go_wp2_with fail
        refine (concat_at w3 a3 c3 pre a1 c1 lo pl HA.out.2.2.1 HA.out.1 HPL.out).mono ?_
        rintro e w4 ⟨ad, c', rfl, hlc, hv, hb⟩
        have hplb' : Hid (View w4 ad pl ∧ Below w3.heap.size w3 w4) := ⟨hv, hb⟩
        clear hv hb
        go_wp2_with fail
        refine (after_any ad c' pl w4 hplb'.out.1 hplb hlc (by omega)).mono ?_
        rw [HR.out]
        rintro e w5 ⟨ad2, c5, rfl, hv5, hb5⟩
        simp only [Option.getD_some, Option.isSome_some] at hv5 ⊢
        have hbb : Below w3.heap.size w3 w5 := hplb'.out.2.trans (hb5.mono hplb'.out.2.size)
        have hM5 := HA.out.2.2.2.1.later hbb
        obtain ⟨cc0', cc1', cc2', cc3'⟩ := hM5.c
        obtain ⟨fc0', fc1'⟩ := hM5.fc
        have hlt5 := hM5.lt
        have HB : Hid _ := boxed0 hM5 (HA.out.2.2.2.2.trans (hbb.mono HA.out.2.2.2.2.size)) hv5 (HA.out.2.1.later hbb) (HA.out.2.2.1.later hbb) c5 false
        clear hv5 hb5 hbb ca0 ca1 ca2 ca3 cc0 cc1 cc2 cc3 cb0 cb1 cb2 cb3 fb0 fb1 fb2 fb3 fc0 fc1 hM5
        go_wp2_with fail
        go_meet
        case rel =>
          refine ⟨_, fail_no (by rw [HPL.out]; exact HR.out), HB.out.1, ?_, HB.out.2.2⟩
          have e : lowerL a1.isNone true a3.isNone pre lo = some q := by unfold lowerL; rw [if_pos hA, HPL.out]; exact HR.out
          rw [e]; exact HB.out.2.1
    · by_cases hC : (!a1.isNone || !a3.isNone) = true
      · obtain ⟨pl, hpl⟩ : ∃ pl, pre ++ lo = pl := ⟨_, rfl⟩
        have HPL : Hid (pre ++ lo = pl) := hpl
        clear hpl
        have hsplit : (a1.isNone = false ∧ le = false) ∨ (a1.isNone = true ∧ a3.isNone = false) := by
          revert hA hC; cases a1.isNone <;> cases a3.isNone <;> cases le <;> simp
        have HA2 : Hid (¬ (!a1.isNone && le) = true) := hA
        have HC2 : Hid ((!a1.isNone || !a3.isNone) = true) := hC
        clear hA hC
        rcases hsplit with ⟨e1, rfl⟩ | ⟨e1, e3⟩
        all_goals
          have HE1 : Hid _ := e1
          rw [e1] at hq1
          try rw [e3] at hq3
          simp only [Bool.not_false, Bool.not_true] at hq1 hq3
          clear e1
          go_wp2_with fail
          refine (concat_at w3 a3 c3 pre a1 c1 lo pl HA.out.2.2.1 HA.out.1 HPL.out).mono ?_
          rintro e w5 ⟨ad2, c5, rfl, hlc, hv5, hbb⟩
          have hM5 := HA.out.2.2.2.1.later hbb
          obtain ⟨cc0', cc1', cc2', cc3'⟩ := hM5.c
          obtain ⟨fc0', fc1'⟩ := hM5.fc
          have hlt5 := hM5.lt
          have HB : Hid _ := boxed0 hM5 (HA.out.2.2.2.2.trans (hbb.mono HA.out.2.2.2.2.size)) hv5 (HA.out.2.1.later hbb) (HA.out.2.2.1.later hbb) c5 false
          clear hv5 hbb ca0 ca1 ca2 ca3 cc0 cc1 cc2 cc3 cb0 cb1 cb2 cb3 fb0 fb1 fb2 fb3 fc0 fc1 hM5
          go_wp2_with fail
          go_meet
          case rel =>
            refine ⟨_, fail_no2 HA2.out, HB.out.1, ?_, HB.out.2.2⟩
            unfold lowerL; rw [if_neg HA2.out, if_pos HC2.out, HPL.out]; exact HB.out.2.1
      · obtain ⟨e1, e3⟩ : a1.isNone = true ∧ a3.isNone = true := by simpa using hC
        have HA2 : Hid (¬ (!a1.isNone && le) = true) := hA
        have HC2 : Hid (¬ (!a1.isNone || !a3.isNone) = true) := hC
        clear hA hC
        rw [e1] at hq1
        rw [e3] at hq3
        simp only [Bool.not_true] at hq1 hq3
        have HE1 : Hid (a1.isNone = true ∧ a3.isNone = true) := ⟨e1, e3⟩
        clear e1 e3
        go_wp2_with fail
        go_meet
        case rel =>
          refine ⟨none, fail_no2 HA2.out, HA.out.2.2.2.1, ?_, HA.out.2.2.2.2, HA.out.2.1, HA.out.2.2.1⟩
          unfold lowerL; rw [if_neg HA2.out, if_neg HC2.out]; rfl
  case rest =>
    obtain ⟨q1, hfl, hM2, hb1, hB2, hA2, hA3⟩ := hcut
    have HC : Hid (failL a1.isNone le pre lo = false ∧ Mid w.heap.size wc (.slice a1 lo.length c1) (.slice a2 hi.length c2) le he nr (.pointer q1) (.pointer none) ∧ BoundIs wc (.pointer q1) false (lowerL a1.isNone le a3.isNone pre lo) ∧ Below w.heap.size w wc ∧ Arg wc a2 c2 hi ∧ Arg wc a3 c3 pre) := ⟨hfl, hM2, hb1, hB2, hA2, hA3⟩
    clear hM HA hq1
    obtain ⟨ca0, ca1, ca2, ca3⟩ := hM2.a
    obtain ⟨cc0, cc1, cc2, cc3⟩ := hM2.c
    obtain ⟨fc0, fc1⟩ := hM2.fc
    obtain ⟨cb0, cb1, cb2, cb3⟩ := hM2.b
    obtain ⟨fb0, fb1, fb2, fb3⟩ := hM2.fb
    have hlt := hM2.lt
    clear hfl hM2 hb1 hB2 hA2 hA3
    go_upto_block 1 with (fail)
    go_cut [] (fun wc => ∃ q2, Last w wc (.slice a1 lo.length c1) (.slice a2 hi.length c2) le he nr q1 q2 (lowerL a1.isNone le a3.isNone pre lo) (upperL a2.isNone he a3.isNone pre hi))
    case first =>
      by_cases hA : (!a2.isNone && he) = true
      · obtain ⟨hA1, rfl⟩ : a2.isNone = false ∧ he = true := by simpa using hA
        rw [hA1] at hq2
        simp only [Bool.not_false] at hq2
        obtain ⟨pl, hpl⟩ : ∃ pl, pre ++ hi = pl := ⟨_, rfl⟩
        have HPL : Hid (pre ++ hi = pl) := hpl
        clear hpl
        go_wp2_with fail
        refine (concat_at wc a3 c3 pre a2 c2 hi pl HC.out.2.2.2.2.2 HC.out.2.2.2.2.1 HPL.out).mono ?_
        rintro e w5 ⟨ad2, c5, rfl, hlc, hv5, hbb⟩
        have hM5 := HC.out.2.1.later hbb
        obtain ⟨cc0', cc1', cc2', cc3'⟩ := hM5.c
        obtain ⟨fc0', fc1'⟩ := hM5.fc
        have hlt5 := hM5.lt
        have HB : Hid _ := boxed1 hM5 (HC.out.2.2.2.1.trans (hbb.mono HC.out.2.2.2.1.size)) hv5 (HC.out.2.2.1.later hbb) c5 true
        clear hv5 hbb ca0 ca1 ca2 ca3 cc0 cc1 cc2 cc3 cb0 cb1 cb2 cb3 fb0 fb1 fb2 fb3 fc0 fc1 hM5
        go_wp2_with fail
        go_meet
        case rel =>
          refine ⟨_, HB.out.1, HB.out.2.2.1, ?_, HB.out.2.2.2⟩
          unfold upperL; rw [if_pos hA, HPL.out]; exact HB.out.2.1
      · by_cases hC : (!a2.isNone || !a3.isNone) = true
        · obtain ⟨pl, hpl⟩ : ∃ pl, pre ++ hi = pl := ⟨_, rfl⟩
          have hplb : Byt pl := by rw [← hpl]; exact byt_append HC.out.2.2.2.2.2.byt HC.out.2.2.2.2.1.byt
          have hpll : pl.length ≤ 2097152 := by rw [← hpl, List.length_append]; have := HC.out.2.2.2.2.2.len; have := HC.out.2.2.2.2.1.len; omega
          have HPL : Hid (pre ++ hi = pl) := hpl
          clear hpl
          have hsplit : (a2.isNone = false ∧ he = false) ∨ (a2.isNone = true ∧ a3.isNone = false) := by
            revert hA hC; cases a2.isNone <;> cases a3.isNone <;> cases he <;> simp
          have HA2 : Hid (¬ (!a2.isNone && he) = true) := hA
          have HC2 : Hid ((!a2.isNone || !a3.isNone) = true) := hC
          clear hA hC
          rcases hsplit with ⟨e1, rfl⟩ | ⟨e1, e3⟩
          all_goals
            have HE1 : Hid _ := e1
            rw [e1] at hq2
            try rw [e3] at hq3
            simp only [Bool.not_false, Bool.not_true] at hq2 hq3
            clear e1
            go_wp2_with fail
            refine (concat_at wc a3 c3 pre a2 c2 hi pl HC.out.2.2.2.2.2 HC.out.2.2.2.2.1 HPL.out).mono ?_
            rintro e w4 ⟨ad, c', rfl, hlc, hv, hb⟩
            have hplb' : Hid (View w4 ad pl ∧ Below wc.heap.size wc w4) := ⟨hv, hb⟩
            clear hv hb
            go_wp2_with fail
            refine (after_any ad c' pl w4 hplb'.out.1 hplb hlc (by omega)).mono ?_
            rcases hr : afterL pl with _ | q
            · have HR : Hid (afterL pl = none) := hr
              clear hr
              rintro e w5 ⟨ad2, c5, rfl, hv5, hb5⟩
              simp only [Option.getD_none, Option.isSome_none, List.length_nil]
              have hbb : Below wc.heap.size wc w5 := hplb'.out.2.trans (hb5.mono hplb'.out.2.size)
              have hM5 := HC.out.2.1.later hbb
              have HB : Hid _ := And.intro hM5 (And.intro (HC.out.2.2.1.later hbb) (HC.out.2.2.2.1.trans (hbb.mono HC.out.2.2.2.1.size)))
              clear hv5 hb5 hbb ca0 ca1 ca2 ca3 cc0 cc1 cc2 cc3 cb0 cb1 cb2 cb3 fb0 fb1 fb2 fb3 fc0 fc1 hM5
              go_wp2_with fail
              go_meet
              case rel =>
                refine ⟨none, HB.out.1, HB.out.2.1, ?_, HB.out.2.2⟩
                unfold upperL; rw [if_neg HA2.out, if_pos HC2.out, HPL.out, HR.out]; rfl
            · have HR : Hid (afterL pl = some q) := hr
              clear hr
              rintro e w5 ⟨ad2, c5, rfl, hv5, hb5⟩
              simp only [Option.getD_some, Option.isSome_some] at hv5 ⊢
              have hbb : Below wc.heap.size wc w5 := hplb'.out.2.trans (hb5.mono hplb'.out.2.size)
              have hM5 := HC.out.2.1.later hbb
              obtain ⟨cc0', cc1', cc2', cc3'⟩ := hM5.c
              obtain ⟨fc0', fc1'⟩ := hM5.fc
              have hlt5 := hM5.lt
              have HB : Hid _ := boxed1 hM5 (HC.out.2.2.2.1.trans (hbb.mono HC.out.2.2.2.1.size)) hv5 (HC.out.2.2.1.later hbb) c5 true
              clear hv5 hb5 hbb ca0 ca1 ca2 ca3 cc0 cc1 cc2 cc3 cb0 cb1 cb2 cb3 fb0 fb1 fb2 fb3 fc0 fc1 hM5
              go_wp2_with fail
              go_meet
              case rel =>
                refine ⟨_, HB.out.1, HB.out.2.2.1, ?_, HB.out.2.2.2⟩
                unfold upperL; rw [if_neg HA2.out, if_pos HC2.out, HPL.out, HR.out]; exact HB.out.2.1
        · obtain ⟨e1, e3⟩ : a2.isNone = true ∧ a3.isNone = true := by simpa using hC
          have HA2 : Hid (¬ (!a2.isNone && he) = true) := hA
          have HC2 : Hid (¬ (!a2.isNone || !a3.isNone) = true) := hC
          clear hA hC
          rw [e1] at hq2
          rw [e3] at hq3
          simp only [Bool.not_true] at hq2 hq3
          have HE1 : Hid (a2.isNone = true ∧ a3.isNone = true) := ⟨e1, e3⟩
          clear e1 e3
          go_wp2_with fail
          go_meet
          case rel =>
            refine ⟨none, HC.out.2.1, HC.out.2.2.1, ?_, HC.out.2.2.2.1⟩
            unfold upperL; rw [if_neg HA2.out, if_neg HC2.out]; rfl
    case rest =>
      clear ca0 ca1 ca2 ca3 cc0 cc1 cc2 cc3 cb0 cb1 cb2 cb3 fb0 fb1 fb2 fb3 fc0 fc1
      obtain ⟨q2, hL⟩ := hcut
      obtain ⟨cc0, cc1, cc2, cc3⟩ := hL.mid.c
      obtain ⟨cb0, cb1, cb2, cb3⟩ := hL.mid.b
      obtain ⟨fb0, fb1, fb2, fb3⟩ := hL.mid.fb
      have HF : Hid _ := four_set hL.mid.h1 (.pointer q1) (.pointer q2) (.bool false) (.int .i64 0)
      have HL : Hid _ := hL.fin
      clear hL
      go_wp2_with fail
      refine bodyPost_ret (v := .tuple #[.agg #[.pointer q1, .pointer q2, .bool false, .int .i64 0], .bool true]) (by obtain ⟨r0, r1, r2, r3⟩ := HF.out; simp [results, Try.results24, go_sem, r0, r1, r2, r3]) rfl
        ⟨.inr ⟨HC.out.1, _, _, rfl, HL.out.1, HL.out.2.1⟩, HL.out.2.2⟩

end Go.Proofs.Qxb6002590a
