import Derived.Test.Qxb6600828aLeaf
namespace Go.Proofs.Qxb6600828a
open Go.RowKit Plain

theorem Try.info5 : (Try.prog.info? 5).map (fun i => (i.zero, i.size, i.bytes)) = some (some (.int .u8 0), 1, 1) := by kernel_rfl
theorem Try.info4 : (Try.prog.info? 4).map (fun i => (i.zero, i.size, i.bytes)) = some (some (.bool false), 1, 1) := by kernel_rfl
theorem Try.info3 : (Try.prog.info? 3).map (fun i => (i.zero, i.size, i.bytes)) = some (some (.int .i64 0), 1, 8) := by kernel_rfl

/-- What a row of the call's own holds so far. -/
def Upto (l : List Int) (k : Nat) (xs : List Value) : Prop := xs.length = l.length ∧ ∀ j (h : j < l.length), j < k → xs[j]? = some (.int .u8 l[j])

theorem Upto.set {l : List Int} {k : Nat} {xs : List Value} (h : Upto l k xs) (hk : k < l.length) : Upto l (k + 1) (xs.set k (.int .u8 l[k])) := by
  refine ⟨by simpa using h.1, fun j hj hjk => ?_⟩
  rw [List.getElem?_set]
  by_cases e : k = j
  · subst e; rw [if_pos rfl, if_pos (by rw [h.1]; exact hj)]
  · rw [if_neg e]; exact h.2 j hj (by omega)

theorem Upto.view {w : World} {base g c : Nat} {l : List Int} {xs : List Value} (h : Upto l l.length xs) (ho : w.ownsRow base 5 1 (.slice (some ⟨g, 0, none⟩) l.length c) l.length xs) : View w (some ⟨g, 0, none⟩) l := by
  intro j hj
  refine ⟨g, 0, rfl, ?_⟩
  rw [Nat.zero_add, ho.cellAt j (by omega)]
  exact h.2 j hj hj

theorem ret_slice {a b : Option Addr} {n m c d : Nat} (h : a = b) (h2 : n = m) (h3 : c = d) : Ending.returned (.slice a n c) = .returned (.slice b m d) := by rw [h, h2, h3]

set_option maxHeartbeats 1000000 in
theorem copy_some (ad : Addr) (c : Nat) (l : List Int) (w : World) (hv : View w (some ad) l) (hn : l.length ≤ 140737488355328) :
    Calls Try.prog 11 #[.slice (some ad) l.length c] w fun e w' => e = .returned (.slice (some ⟨w.heap.size, 0, none⟩) l.length l.length) ∧ View w' (some ⟨w.heap.size, 0, none⟩) l ∧ Below w.heap.size w w' := by
  have HV : Hid (View w (some ad) l) := hv
  clear hv
  have hq := fun w => Lib.run_eql_slice_nil (P := Try.prog) w 22 5 (some ad) l.length c 0 0 Try.underlying22
  simp only [Option.isNone_some] at hq
  obtain ⟨i0, hi, hz0, hz1, hz2⟩ := info_parts Try.info5
  go_enter Try.func11, Try.ntmps11
  go_wp2_with (first | (refine wpList_make_full _ rfl _ _ 22 rfl w.heap.size 5 i0 (.int .u8 0) 1 Try.underlying22 hi hz0 hz1 .i64 .i64 _ _ l.length rfl rfl rfl rfl ?_ ?_ ?_ ?_))
  · rw [hz2]; omega
  · unfold maxLen; omega
  · exact Nat.le_refl _
  intro w1 hown hgrow
  have hb1 : Below w.heap.size w w1 := (Below.refl _ _).grown hgrow (Nat.le_refl _) (by simp)
  have R0 : ∃ xs, w1.ownsRow w.heap.size 5 1 (.slice (some ⟨w.heap.size, 0, none⟩) l.length l.length) l.length xs ∧ Upto l 0 xs := ⟨_, hown, by have := hown.1; omega, by intro j _ h; omega⟩
  obtain ⟨xs0, hx0, hu0⟩ := R0
  have X0 : Hid (w1.ownsRow w.heap.size 5 1 (.slice (some ⟨w.heap.size, 0, none⟩) l.length l.length) l.length xs0 ∧ Upto l 0 xs0 ∧ Below w.heap.size w w1) := ⟨hx0, hu0, hb1⟩
  clear hown hgrow hx0 hu0 hb1
  go_wp2
  go_loopw [4] (fun i wr => ∃ (k : Nat) (xs : List Value), k ≤ l.length ∧ i = .int .i64 k ∧ wr.ownsRow w.heap.size 5 1 (.slice (some ⟨w.heap.size, 0, none⟩) l.length l.length) l.length xs ∧ Upto l k xs ∧ Below w.heap.size w wr) (fun i _ => l.length - (intOf i).toNat)
  case atStart => exact ⟨0, xs0, Nat.zero_le _, rfl, X0.out⟩
  case round =>
    obtain ⟨k, xs, hk, rfl, ho, hu, hb⟩ := hrel
    by_cases hlt : k < l.length
    · obtain ⟨b, off, e, hc⟩ := HV.out k hlt
      obtain rfl : ad = ⟨b, off, none⟩ := by simpa using e
      clear e
      have hs := hu.set hlt
      have hcr := cell_later hb hc
      obtain ⟨x, hx⟩ : ∃ x, l[k] = x := ⟨_, rfl⟩
      rw [hx] at hc hcr hs
      clear hx hc
      have hf := ho.frozenAt k
      obtain ⟨old, hold⟩ : ∃ old, wr.cell? ⟨w.heap.size, k, none⟩ = some old := by
        rw [ho.cellAt k (by omega)]
        exact ⟨_, List.getElem?_eq_getElem (by have := ho.1; omega)⟩
      have hst := (ho.stored k (.int .u8 x)).1
      have X : Hid ((wr.setCell ⟨w.heap.size, k, none⟩ (.int .u8 x)).ownsRow w.heap.size 5 1 (.slice (some ⟨w.heap.size, 0, none⟩) l.length l.length) l.length (xs.set k (.int .u8 x)) ∧ Upto l (k + 1) (xs.set k (.int .u8 x)) ∧ Below w.heap.size w (wr.setCell ⟨w.heap.size, k, none⟩ (.int .u8 x))) := ⟨hst, hs, hb.setCell (Nat.le_refl _) _⟩
      clear hst hs hb ho hu
      go_wp2
      go_roundw
      case rel => exact ⟨k + 1, xs.set k (.int .u8 x), by omega, by go_num, X.out⟩
      case measure => simp [intOf]; omega
    · obtain rfl : k = l.length := by omega
      have X : Hid (View wr (some ⟨w.heap.size, 0, none⟩) l ∧ Below w.heap.size w wr) := ⟨hu.view ho, hb⟩
      clear ho hu hb
      go_wp2
      go_ret
      exact ⟨rfl, X.out⟩


set_option maxHeartbeats 400000 in
theorem copy_nil (n c : Nat) (w : World) :
    Calls Try.prog 11 #[.slice none n c] w fun e w' => e = .returned (.slice none 0 0) ∧ w' = w := by
  have hq := fun w => Lib.run_eql_slice_nil (P := Try.prog) w 22 5 none n c 0 0 Try.underlying22
  simp only [Option.isNone_none] at hq
  go_enter Try.func11, Try.ntmps11
  go_wp2
  go_ret
  exact ⟨rfl, rfl⟩

theorem copy_any (ad : Option Addr) (c : Nat) (l : List Int) (w : World) (hv : View w ad l) (h0 : ad = none → l = []) (hn : l.length ≤ 140737488355328) :
    Calls Try.prog 11 #[.slice ad l.length c] w fun e w' => ∃ ad' c', e = .returned (.slice ad' l.length c') ∧ ad'.isNone = ad.isNone ∧ (ad' = none → c' = 0) ∧ View w' ad' l ∧ Below w.heap.size w w' := by
  cases ad with
  | none =>
    obtain rfl := h0 rfl
    refine (copy_nil _ _ w).mono ?_
    rintro e w' ⟨rfl, rfl⟩
    exact ⟨none, 0, rfl, rfl, fun _ => rfl, view_nil _ _, Below.refl _ _⟩
  | some a =>
    refine (copy_some a c l w hv hn).mono ?_
    rintro e w' ⟨rfl, h⟩
    exact ⟨_, _, rfl, rfl, fun e => by simp at e, h⟩


set_option maxHeartbeats 1000000 in
theorem same_any (ad : Option Addr) (c : Nat) (l : List Int) (ad2 : Option Addr) (c2 : Nat) (w : World) (hv : View w ad l) (hv2 : View w ad2 l) (hn : l.length ≤ 9223372036854775807) :
    Calls Try.prog 14 #[.slice ad l.length c, .slice ad2 l.length c2] w fun e w' => e = .returned (.bool true) ∧ ∃ n, w' = w.drewN n := by
  have HV : Hid (View w ad l) := hv
  have HV2 : Hid (View w ad2 l) := hv2
  clear hv hv2
  go_enter Try.func14, Try.ntmps14
  go_wp2
  go_loopw [5] (fun i wr => ∃ j : Nat, j ≤ l.length ∧ i = .int .i64 j ∧ ∃ n, wr = w.drewN n) (fun i _ => l.length - (intOf i).toNat)
  case atStart => exact ⟨0, Nat.zero_le _, rfl, 0, rfl⟩
  case round =>
    obtain ⟨j, hj, rfl, n, rfl⟩ := hrel
    by_cases hlt : j < l.length
    · obtain ⟨b, off, rfl, hc⟩ := HV.out j hlt
      obtain ⟨b2, off2, rfl, hc2⟩ := HV2.out j hlt
      obtain ⟨x, hx⟩ : ∃ x, l[j] = x := ⟨_, rfl⟩
      rw [hx] at hc hc2
      clear hx
      go_wp2
      go_quiet (fail)
      go_wp2
      go_roundw
      case rel => exact ⟨j + 1, by omega, by go_num, _, rfl⟩
      case measure => simp [intOf]; omega
    · go_wp2
      go_ret
      exact ⟨rfl, n, rfl⟩

/-- The slice's cells hold the Bools g 0, g 1, .. -/
def BView (w : World) (b n : Nat) (g : Nat → Bool) : Prop := ∀ j, j < n → w.cell? ⟨b, j, none⟩ = some (.bool (g j))
/-- The slice's cells hold the numbers g 0, g 1, .. -/
def IView (w : World) (b n : Nat) (g : Nat → Int) : Prop := ∀ j, j < n → w.cell? ⟨b, j, none⟩ = some (.int .i64 (g j))

theorem BView.below {w w' : World} {b n : Nat} {g : Nat → Bool} (h : BView w b n g) (hb : Below w.heap.size w w') : BView w' b n g := fun j hj => cell_later hb (h j hj)

end Go.Proofs.Qxb6600828a
