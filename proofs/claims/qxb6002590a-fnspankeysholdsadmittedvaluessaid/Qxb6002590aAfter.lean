import Derived.Test.Qxb6002590aConcat
namespace Go.Proofs.Qxb6002590a
open Go.RowKit Plain

theorem View.take {w : World} {ad : Option Addr} {l : List Int} (h : View w ad l) (k : Nat) : View w ad (l.take k) := by
  intro j hj
  have hj' : j < l.length := by simp at hj; omega
  obtain ⟨b, off, e, hc⟩ := h j hj'
  refine ⟨b, off, e, ?_⟩
  rw [hc]; simp

theorem sclone' (ad : Addr) (c n : Nat) (l : List Int) (w : World) (hv : View w (some ad) l) (hn : l.length = n) (hl : n ≤ 140737488355328) :
    Calls Try.prog 36 #[.slice (some ad) n c] w fun e w' => ∃ g cap, e = .returned (.slice (some ⟨g, 0, none⟩) n cap) ∧ w'.ownsRow w.heap.size 5 1 (.slice (some ⟨g, 0, none⟩) n cap) n (cells l) ∧ w.heap.size ≤ g ∧ Below w.heap.size w w' := by
  subst hn
  refine (sclone_some ad c l w hv hl).mono ?_
  rintro e w' ⟨v, rfl, hne, ho, hb⟩
  have ho' := ho
  rcases ho.2 with ⟨rfl, _⟩ | ⟨g, cap, cur, rfl, hg, _⟩
  · exact absurd rfl hne
  · exact ⟨g, cap, rfl, ho', hg, hb⟩

def AfterPost (w : World) (r : Option (List Int)) (e : Ending) (w' : World) : Prop :=
  ∃ ad' c', e = .returned (.tuple #[.slice ad' (r.getD []).length c', .bool r.isSome]) ∧ View w' ad' (r.getD []) ∧ Below w.heap.size w w'

theorem ret_two {a b c d : Value} (h1 : a = c) (h2 : b = d) : Ending.returned (.tuple #[a, b]) = .returned (.tuple #[c, d]) := by rw [h1, h2]

set_option maxHeartbeats 2000000 in
set_option maxRecDepth 100000 in
theorem after_any (ad : Option Addr) (c : Nat) (l : List Int) (w : World) (hv : View w ad l) (hbt : Byt l) (hlc : l.length ≤ c) (hl : l.length ≤ 140737488355328) :
    Calls Try.prog 32 #[.slice ad l.length c] w fun e w' => AfterPost w (afterL l) e w' := by
  have HV : Hid (View w ad l) := hv
  clear hv
  go_enter Try.func32, Try.ntmps32
  go_wp2
  go_loop [4] (fun i => ∃ k : Nat, k ≤ l.length ∧ i = .int .i64 k ∧ ffL (l.drop k) = true) (fun i => (intOf i).toNat)
  case atStart => exact ⟨l.length, Nat.le_refl _, rfl, by simp [ffL]⟩
  case round =>
    obtain ⟨k, hk, rfl, hr⟩ := hrel
    have HR : Hid (ffL (l.drop k) = true) := hr
    clear hr
    cases k with
    | zero =>
      have he := afterL_ff l (by simpa using HR.out)
      have HE : Hid (afterL l = none) := he
      clear he
      go_wp2
      go_ret2
      rw [HE.out]
      exact ⟨none, 0, rfl, view_nil _ _, Below.refl _ _⟩
    | succ k =>
      obtain ⟨b, off, rfl, hc⟩ := HV.out k (by omega)
      by_cases hx : l[k] = 255
      · have hd : ffL (l.drop k) = true := by
          rw [ffL_drop l k (by omega), hx, HR.out]; rfl
        have HD : Hid (ffL (l.drop k) = true) := hd
        rw [hx] at hc
        clear hd hx
        go_wp2
        go_round
        case rel => exact ⟨k, by omega, by go_num, HD.out⟩
        case measure => simp [intOf]
      · have he := afterL_some l k (by omega) HR.out hx
        have hb255 := hbt l[k] (List.getElem_mem _)
        have HT : Hid (View w (some ⟨b, off, none⟩) (l.take (k + 1))) := HV.out.take (k + 1)
        have hcell : ∀ (h : k < (l.take (k + 1)).length), (l.take (k + 1))[k] = l[k] := by intro h; simp
        have htl : (l.take (k + 1)).length = k + 1 := by simp; omega
        obtain ⟨x, hxx⟩ : ∃ x, l[k] = x := ⟨_, rfl⟩
        rw [hxx] at hc hx he hb255 hcell
        obtain ⟨t, ht⟩ : ∃ t, l.take (k + 1) = t := ⟨_, rfl⟩
        rw [ht] at HT
        simp only [ht] at hcell htl
        have HC : Hid (∃ h : k < t.length, t[k] = x) := ⟨by omega, hcell (by omega)⟩
        rw [ht] at he
        have HE : Hid (afterL l = some (t.set k (x + 1))) := he
        have HTL : Hid (t.length = k + 1) := htl
        clear he hcell ht hxx htl
        go_wp2_with fail
        refine (sclone' _ _ _ t w HT.out HTL.out (by omega)).mono ?_
        rintro e w1 ⟨g, cap, rfl, ho, hg, hb⟩
        have hcell : w1.cell? ⟨g, k, none⟩ = some (.int .u8 x) := by
          obtain ⟨h, e⟩ := HC.out
          rw [ho.cellAt k (by omega), ← e]
          simp [cells, h]
        have hf := ho.frozenAt k
        have hst := (ho.stored k (.int .u8 (x + 1))).1
        have hset : (cells t).set k (.int .u8 (x + 1)) = cells (t.set k (x + 1)) := by simp [cells, List.map_set]
        rw [hset] at hst
        have X : Hid ((w1.setCell ⟨g, k, none⟩ (.int .u8 (x + 1))).ownsRow w.heap.size 5 1 (.slice (some ⟨g, 0, none⟩) (k + 1) cap) (k + 1) (cells (t.set k (x + 1))) ∧ Below w.heap.size w (w1.setCell ⟨g, k, none⟩ (.int .u8 (x + 1)))) := ⟨hst, hb.setCell hg _⟩
        clear hst hset ho hb
        go_wp2
        go_ret2
        rw [HE.out]
        have hl2 : (t.set k (x + 1)).length = k + 1 := by rw [List.length_set]; exact HTL.out
        have ho2 := X.out.1
        rw [← hl2] at ho2
        obtain ⟨ad', c', e2, _, hvw⟩ := owns_view ho2
        refine ⟨ad', c', ?_, hvw, X.out.2⟩
        refine ret_two ?_ rfl
        rw [hl2] at e2
        show _ = Value.slice ad' (t.set k (x + 1)).length c'
        rw [hl2, ← e2]
        rfl

end Go.Proofs.Qxb6002590a
