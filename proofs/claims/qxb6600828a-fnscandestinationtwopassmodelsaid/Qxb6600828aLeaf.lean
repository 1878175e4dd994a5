import Derived.Test.Qxb6600828aRows
import Derived.Test.Qxb6600828aPlain
import Derived.WalkKit
import Derived.WalkSpells
import Derived.WalkLawsBesides
import Derived.RegionTactic
import Derived.Deep.QuietTactic
import Derived.BigQuiet
namespace Go.Proofs.Qxb6600828a
open Go.RowKit Plain

/-- The slice's first l.length cells hold the bytes l. -/
def View (w : World) (ad : Option Addr) (l : List Int) : Prop :=
  ∀ j (h : j < l.length), ∃ b off, ad = some ⟨b, off, none⟩ ∧ w.cell? ⟨b, off + j, none⟩ = some (.int .u8 l[j])

def Byt (l : List Int) : Prop := ∀ x ∈ l, 0 ≤ x ∧ x ≤ 255

theorem ret_bool {a b : Bool} (h : a = b) : Ending.returned (.bool a) = .returned (.bool b) := by rw [h]

theorem View.below {w w' : World} {ad : Option Addr} {l : List Int} (h : View w ad l) (hb : Below w.heap.size w w') : View w' ad l := by
  intro j hj
  obtain ⟨b, off, e, hc⟩ := h j hj
  exact ⟨b, off, e, cell_later hb hc⟩
theorem view_nil (w : World) (ad : Option Addr) : View w ad [] := by
  intro j hj; simp at hj

theorem punct_iff (c : Int) : punctB c = true ↔ ((33 ≤ c ∧ c ≤ 47) ∨ (58 ≤ c ∧ c ≤ 64) ∨ (91 ≤ c ∧ c ≤ 96) ∨ (123 ≤ c ∧ c ≤ 126)) := by
  unfold punctB
  simp only [Bool.or_eq_true, Bool.and_eq_true, decide_eq_true_eq]
  omega
theorem punct_not {c : Int} (h : ¬ ((33 ≤ c ∧ c ≤ 47) ∨ (58 ≤ c ∧ c ≤ 64) ∨ (91 ≤ c ∧ c ≤ 96) ∨ (123 ≤ c ∧ c ≤ 126))) : punctB c = false := by
  cases e : punctB c with
  | false => rfl
  | true => exact absurd ((punct_iff c).1 e) h
theorem blank_iff (c : Int) : blankB c = true ↔ (c = 32 ∨ (9 ≤ c ∧ c ≤ 13)) := by
  unfold blankB
  simp only [Bool.or_eq_true, Bool.and_eq_true, decide_eq_true_eq, beq_iff_eq]
theorem blank_not {c : Int} (h : ¬ (c = 32 ∨ (9 ≤ c ∧ c ≤ 13))) : blankB c = false := by
  cases e : blankB c with
  | false => rfl
  | true => exact absurd ((blank_iff c).1 e) h

set_option maxHeartbeats 2000000 in
theorem punct33 (c : Int) (w : World) :
    Calls Try.prog 33 #[.int .u8 c] w fun e w' => e = .returned (.bool (punctB c)) ∧ w' = w := by
  by_cases h1 : 33 ≤ c ∧ c ≤ 47
  · have HP : Hid (punctB c = true) := (punct_iff c).2 (by omega)
    obtain ⟨x1, x2⟩ := h1
    go_enter Try.func33, Try.ntmps33
    go_wp2
    go_ret
    exact ⟨ret_bool HP.out.symm, rfl⟩
  by_cases h2 : 58 ≤ c ∧ c ≤ 64
  · have HP : Hid (punctB c = true) := (punct_iff c).2 (by omega)
    go_enter Try.func33, Try.ntmps33
    go_wp2
    all_goals
      go_ret
      refine ⟨ret_bool (Eq.trans ?_ HP.out.symm), rfl⟩
      first | rfl | (simp; omega)
  by_cases h3 : 91 ≤ c ∧ c ≤ 96
  · have HP : Hid (punctB c = true) := (punct_iff c).2 (by omega)
    go_enter Try.func33, Try.ntmps33
    go_wp2
    all_goals
      go_ret
      refine ⟨ret_bool (Eq.trans ?_ HP.out.symm), rfl⟩
      first | rfl | (simp; omega)
  by_cases h4 : 123 ≤ c ∧ c ≤ 126
  · have HP : Hid (punctB c = true) := (punct_iff c).2 (by omega)
    go_enter Try.func33, Try.ntmps33
    go_wp2
    all_goals
      go_ret
      refine ⟨ret_bool (Eq.trans ?_ HP.out.symm), rfl⟩
      first | rfl | (simp; omega)
  · have HP : Hid (punctB c = false) := punct_not (by omega)
    go_enter Try.func33, Try.ntmps33
    go_wp2
    all_goals
      go_ret
      refine ⟨ret_bool (Eq.trans ?_ HP.out.symm), rfl⟩
      first | rfl | (simp; omega)

set_option maxHeartbeats 1000000 in
theorem punct34 (c : Int) (w : World) :
    Calls Try.prog 34 #[.int .u8 c] w fun e w' => e = .returned (.bool (punctB c)) ∧ w' = w := by
  have HY : Hid (((33 ≤ c ∧ c ≤ 47) ∨ (58 ≤ c ∧ c ≤ 64) ∨ (91 ≤ c ∧ c ≤ 96) ∨ (123 ≤ c ∧ c ≤ 126)) → punctB c = true) := (punct_iff c).2
  have HN : Hid (¬ ((33 ≤ c ∧ c ≤ 47) ∨ (58 ≤ c ∧ c ≤ 64) ∨ (91 ≤ c ∧ c ≤ 96) ∨ (123 ≤ c ∧ c ≤ 126)) → punctB c = false) := punct_not
  go_enter Try.func34, Try.ntmps34
  go_wp2
  all_goals
    go_ret
    refine ⟨ret_bool ?_, rfl⟩
    first
    | (show true = _; symm; apply HY.out; omega)
    | (show false = _; symm; apply HN.out; omega)

set_option maxHeartbeats 1000000 in
theorem blank28 (c : Int) (w : World) :
    Calls Try.prog 28 #[.int .u8 c] w fun e w' => e = .returned (.bool (blankB c)) ∧ w' = w := by
  have HY : Hid ((c = 32 ∨ (9 ≤ c ∧ c ≤ 13)) → blankB c = true) := (blank_iff c).2
  have HN : Hid (¬ (c = 32 ∨ (9 ≤ c ∧ c ≤ 13)) → blankB c = false) := blank_not
  go_enter Try.func28, Try.ntmps28
  go_wp2
  all_goals
    go_ret
    refine ⟨ret_bool ?_, rfl⟩
    simp only [beq_iff_eq, beq_eq_false_iff_ne, ne_eq] at *
    first
    | (show true = _; symm; apply HY.out; omega)
    | (show false = _; symm; apply HN.out; omega)

end Go.Proofs.Qxb6600828a
