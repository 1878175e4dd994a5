import Derived.Test.Qxb6600704aDoorBuild
import Derived.Test.Qxb6600704aDoorPlain
import Derived.Lib.SmallJoins
namespace Go.Proofs.Qxb6600704aDoor
open Go.RowKit Plain

def Tabs (w : World) : Prop := Lib.TabIs Tryd.prog w "strings.asciiSpace" .u8 Lib.asciiSpaceTab ∧ Lib.WhiteTab 1 w
theorem Tabs.below {w w' : World} (h : Tabs w) (hb : Below w.heap.size w w') : Tabs w' :=
  ⟨Go.Joins.tab_stays (P := Tryd.prog) (g := Tryd.lays157_ren.g 0) (by kernel_rfl) h.1 hb (Nat.le_refl _), WhiteTab_below h.2 hb⟩

theorem builder_below {B b : Nat} {p : Value} {bs : List Value} {w w' : World} (h : Lib.BuilderAtF 56 5 B b p bs w) (hb : Below w.heap.size w w') : Lib.BuilderAtF 56 5 B b p bs w' := by
  have hlt := h.lt
  obtain ⟨hB, v, hbk, hown, hne⟩ := h
  refine ⟨hB, v, ?_, hown.kept (row := none) ⟨hb.os, hb.tape, hb.output, hb.size, fun k hk _ => hb.block k hk⟩ ?_, hne⟩
  · rw [hb.block b hlt]; exact hbk
  · cases v.ownBlock with
    | none => exact .inl rfl
    | some x => exact .inr (by simp)

/-- The row of words. -/
def Holds (A : Nat) (ws : List (List UInt8)) (w : World) : Prop :=
  ∃ cur fz, w.heap[A]? = some (.cells cur 9 fz) ∧ ∀ j (h : j < ws.length), cur[j]? = some (.string ⟨ws[j].toArray⟩)
theorem Holds.cell {A : Nat} {ws : List (List UInt8)} {w : World} (h : Holds A ws w) (j : Nat) (hj : j < ws.length) : w.cell? ⟨A, j, none⟩ = some (.string ⟨ws[j].toArray⟩) := by
  obtain ⟨cur, fz, hb, hc⟩ := h
  rw [Lib.cell_of_heap hb]; exact hc j hj
theorem Holds.kept {A b : Nat} {ws : List (List UInt8)} {w w' : World} (h : Holds A ws w) (hk : Lib.OthersKept 5 (some b) w w') (hne : A ≠ b) : Holds A ws w' := by
  obtain ⟨cur, fz, hb, hc⟩ := h
  refine ⟨cur, fz, hk A _ hb (by simpa using hne) (fun c f e => ?_), hc⟩
  simp at e

def QB (w : World) (b A : Nat) (ws : List (List UInt8)) (acc : List UInt8) (wr : World) : Prop :=
  Lib.BuilderAtF 56 5 b b (.pointer (some ⟨b, 0, none⟩)) (Lib.byteCells acc) wr ∧ Below b w wr ∧ Holds A ws wr ∧ A ≠ b

theorem qb_write {w : World} {b A : Nat} {ws : List (List UInt8)} {acc : List UInt8} {wr : World} (h : Hid (QB w b A ws acc wr)) (c : UInt8) (z : Int) (hz : (c.toNat : Int) = z) (hl : Hid (acc.length + 1 ≤ 140737488355328)) :
    Calls Tryd.prog 41 #[.pointer (some ⟨b, 0, none⟩), .int .u8 z] wr fun e w' => e = .returned .nilIface ∧ Hid (QB w b A ws (acc ++ [c]) w') := by
  obtain ⟨h1, h2, h3, h4⟩ := h.out
  subst hz
  refine (writeByte b b (Lib.byteCells acc) _ wr (.inr h1) (by rw [Lib.byteCells_length]; exact hl.out) (Nat.le_of_lt h1.lt)).mono ?_
  rintro e w' ⟨rfl, k1, k2, k3⟩
  refine ⟨rfl, ?_, h2.trans k2, h3.kept k3 h4, h4⟩
  have : Lib.byteCells (acc ++ [c]) = Lib.byteCells acc ++ [.int .u8 (c.toNat : Int)] := by simp [Lib.byteCells]
  rw [this]; exact k1

theorem qb_len {w : World} {b A : Nat} {ws : List (List UInt8)} {acc : List UInt8} {wr : World} (h : Hid (QB w b A ws acc wr)) (m : Nat) (hm : Hid (acc.length = m)) :
    Calls Tryd.prog 43 #[.pointer (some ⟨b, 0, none⟩)] wr fun e w' => e = .returned (.int .i64 (m : Int)) ∧ w' = wr := by
  have := Tryd.Builder_Len_f b b (Lib.byteCells acc) wr (.inr h.out.1)
  rw [Lib.byteCells_length, hm.out] at this
  exact this

theorem qb_string {w : World} {b A : Nat} {ws : List (List UInt8)} {acc : List UInt8} {wr : World} (h : Hid (QB w b A ws acc wr)) (r : ByteArray) (hr : Hid (⟨acc.toArray⟩ = r)) :
    Calls Tryd.prog 44 #[.pointer (some ⟨b, 0, none⟩)] wr fun e w' => e = .returned (.string r) ∧ Hid (Below b w w') := by
  refine (Tryd.Builder_String_any_k b b acc wr (.inr h.out.1) (Nat.le_of_lt h.out.1.lt)).mono ?_
  rintro e w' ⟨rfl, _, hb, _⟩
  exact ⟨by rw [hr.out], h.out.2.1.trans hb⟩

theorem qb_first (w : World) :
    Calls Tryd.prog 41 #[.pointer (some ⟨w.heap.size, 0, none⟩), .int .u8 34] (w.alloc (.cells #[.pointer none, .slice none 0 0] 56)) fun e w' => e = .returned .nilIface ∧
      Hid (Lib.BuilderAtF 56 5 w.heap.size w.heap.size (.pointer (some ⟨w.heap.size, 0, none⟩)) (Lib.byteCells [34]) w' ∧ Below w.heap.size w w') := by
  refine (writeByte w.heap.size w.heap.size [] 34 _ (Lib.IsBuilderF.of (Lib.fresh_isBuilder 56 5 w)) (by simp) (by simp)).mono ?_
  rintro e w' ⟨rfl, k1, k2, _⟩
  exact ⟨rfl, k1, ((Below.refl _ w).alloc (Nat.le_refl _) _).trans k2⟩

def FieldsPost (w : World) (b : Nat) (ws : List (List UInt8)) (e : Ending) (w' : World) : Prop :=
  ∃ A, e = .returned (.slice (some ⟨A, 0, none⟩) ws.length ws.length) ∧ Hid (QB w b A ws [34] w') ∧ ws.length ≤ maxLen

theorem qb_fields (w w1 : World) (s : ByteArray) (hs : s.size < 4294967281) (hT : Hid (Tabs w)) (ws : List (List UInt8)) (hws : Hid (Lib.fieldsD s.data.toList = ws))
    (h : Hid (Lib.BuilderAtF 56 5 w.heap.size w.heap.size (.pointer (some ⟨w.heap.size, 0, none⟩)) (Lib.byteCells [34]) w1 ∧ Below w.heap.size w w1)) :
    Calls Tryd.prog 42 #[.string s] w1 fun e w' => FieldsPost w w.heap.size ws e w' := by
  have hT1 := hT.out.below h.out.2
  refine (Tryd.strings_Fields_any s w1 hs hT1.1 hT1.2).mono ?_
  rintro e w' ⟨A, rfl, hA, hown, hb⟩
  rw [hws.out] at hown
  have hlt := h.out.1.lt
  have hA0 : A ≠ w.heap.size := by omega
  have hown' := hown
  rcases hown.2 with ⟨h0, _⟩ | ⟨g, cap, cur, hv, hbk, hrest⟩
  · simp at h0
  · simp only [Value.slice.injEq, Option.some.injEq, Addr.mk.injEq] at hv
    obtain ⟨⟨rfl, _⟩, _⟩ := hv
    refine ⟨A, by rw [hws.out], ⟨builder_below h.out.1 hb, h.out.2.trans (hb.mono h.out.2.size), ?_, hA0⟩, Nat.le_trans hrest.2.1 hrest.2.2.1⟩
    refine ⟨cur, _, hrest.1, fun j hj => ?_⟩
    have hc := hown'.cellAt j (by simpa using hj)
    rw [Lib.cell_of_heap hrest.1] at hc
    rw [hc]
    simp [hj]
end Go.Proofs.Qxb6600704aDoor
