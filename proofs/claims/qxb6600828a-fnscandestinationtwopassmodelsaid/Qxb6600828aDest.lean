import Derived.Test.Qxb6600828aScan
namespace Go.Proofs.Qxb6600828a
open Go.RowKit Plain

def DestPost (l : List Int) (i : Nat) (w : World) (e : Ending) (w' : World) : Prop :=
  ((Sc l i none ∧ e = .returned (.tuple #[.int .i64 0, .int .i64 0, .int .i64 0, .bool false])) ∨
   ∃ a b en : Nat, Sc l i (some (a, b, en)) ∧ e = .returned (.tuple #[.int .i64 a, .int .i64 b, .int .i64 en, .bool true])) ∧ Below w.heap.size w w'

theorem marks_at (l : List Int) (f m : Nat) : marks l f (f + m) = mk l f m := by
  unfold marks
  have : f + m - f = m := by omega
  rw [this]; simp

set_option maxHeartbeats 2000000 in
set_option maxRecDepth 100000 in
theorem dest_ang (b off c : Nat) (l : List Int) (i : Nat) (w : World) (hv : View w (some ⟨b, off, none⟩) l) (hn : l.length ≤ 1048576) (hi : i < l.length) (h60 : l.getD i 0 = 60) :
    Calls Try.prog 13 #[.slice (some ⟨b, off, none⟩) l.length c, .int .i64 i] w fun e w' => DestPost l i w e w' := by
  have hcell : ∀ k, k < l.length → ∃ x, w.cell? ⟨b, off + k, none⟩ = some (.int .u8 x) ∧ Hid (l.getD k 0 = x) := by
    intro k hk
    obtain ⟨b', off', e, hc⟩ := hv k hk
    obtain ⟨rfl, rfl⟩ : b = b' ∧ off = off' := by simpa using e
    exact ⟨_, hc, getD_of hk⟩
  have HC : Hid (∀ k, k < l.length → ∃ x, w.cell? ⟨b, off + k, none⟩ = some (.int .u8 x) ∧ Hid (l.getD k 0 = x)) := hcell
  have HV : Hid (View w (some ⟨b, off, none⟩) l) := hv
  have HS : Hid (∀ r, Ang l (i + 1) r → Sc l i r) := fun r h => by unfold Sc; rw [if_pos ⟨hi, h60⟩]; exact h
  obtain ⟨x0, hx0, gx0⟩ := hcell i hi
  obtain rfl : x0 = 60 := by rw [← gx0.out, h60]
  clear hcell hv h60 gx0
  go_enter Try.func13, Try.ntmps13
  go_wp2_with fail
  refine (esc27 (some ⟨b, off, none⟩) c l (i + 1) w HV.out hn (by omega)).mono ?_
  rintro e w1 ⟨rfl, hbv, hbl⟩
  have H1 : Hid (BView w1 w.heap.size l.length (marks l (i + 1)) ∧ Below w.heap.size w w1) := ⟨hbv, hbl⟩
  clear hbv hbl hx0
  go_wp2_with fail
  go_loop [10] (fun j => ∃ m : Nat, i + 1 + m ≤ l.length ∧ j = .int .i64 ((i + 1 + m : Nat) : Int) ∧ Hid (∀ t, t < m → astopB l (i + 1) t = false)) (fun j => l.length - (intOf j).toNat)
  case atStart => exact ⟨0, by omega, rfl, fun t ht => by omega⟩
  case round =>
    obtain ⟨m, hm, rfl, hst⟩ := hrel
    by_cases hlt : i + 1 + m < l.length
    · obtain ⟨x, hcx, gx⟩ := HC.out (i + 1 + m) hlt
      have hcr := cell_later H1.out.2 hcx
      have hce := H1.out.1 (i + 1 + m) hlt
      rw [marks_at] at hce
      clear hcx
      cases hmk : mk l (i + 1) m with
      | true =>
        rw [hmk] at hce
        have X : Hid (∀ t, t < m + 1 → astopB l (i + 1) t = false) := lt_snoc hst.out (astop_mk hmk)
        clear hmk hst
        go_wp2_with fail
        go_round
        case rel => exact ⟨m + 1, by omega, by go_num, X⟩
        case measure => simp [intOf]; omega
      | false =>
        rw [hmk] at hce
        have HM : Hid _ := hmk
        clear hmk
        by_cases e62 : x = 62
        · subst e62
          have X : Hid (Ang l (i + 1) (some (i + 1, i + 1 + m, i + 1 + m + 1))) := .inr ⟨m, hlt, hst.out, astop_yes gx.out HM.out (.inl rfl), by rw [if_pos gx.out]⟩
          clear hst
          go_wp2_with fail
          exact bodyPost_ret (v := .tuple #[.int .i64 ((i + 1 : Nat) : Int), .int .i64 ((i + 1 + m : Nat) : Int), .int .i64 ((i + 1 + m + 1 : Nat) : Int), .bool true]) (by simp [results, Try.results13, go_sem]) rfl ⟨.inr ⟨i + 1, i + 1 + m, i + 1 + m + 1, HS.out _ X.out, rfl⟩, H1.out.2⟩
        · have d62 : (x == 62) = false := by simp [e62]
          by_cases e10 : x = 60 ∨ x = 10
          · have X : Hid (Ang l (i + 1) none) := .inr ⟨m, hlt, hst.out, astop_yes gx.out HM.out (by omega), by rw [if_neg (by rw [gx.out]; exact e62)]⟩
            clear hst e62
            rcases e10 with rfl | rfl
            all_goals
              go_wp2_with fail
              exact bodyPost_ret (v := .tuple #[.int .i64 0, .int .i64 0, .int .i64 0, .bool false]) (by simp [results, Try.results13, go_sem]) rfl ⟨.inl ⟨HS.out _ X.out, rfl⟩, H1.out.2⟩
          · have d10 : (x == 10) = false := by rw [beq_eq_false_iff_ne]; omega
            have d60 : (x == 60) = false := by rw [beq_eq_false_iff_ne]; omega
            have X : Hid (∀ t, t < m + 1 → astopB l (i + 1) t = false) := lt_snoc hst.out (astop_not gx.out (by omega) (by omega) (by omega))
            clear hst e62 e10
            go_wp2_with fail
            go_round
            case rel => exact ⟨m + 1, by omega, by go_num, X⟩
            case measure => simp [intOf]; omega
    · have X : Hid (Ang l (i + 1) none) := .inl ⟨rfl, fun t ht => hst.out t (by omega)⟩
      clear hst
      go_wp2_with fail
      exact bodyPost_ret (v := .tuple #[.int .i64 0, .int .i64 0, .int .i64 0, .bool false]) (by simp [results, Try.results13, go_sem]) rfl ⟨.inl ⟨HS.out _ X.out, rfl⟩, H1.out.2⟩

end Go.Proofs.Qxb6600828a
