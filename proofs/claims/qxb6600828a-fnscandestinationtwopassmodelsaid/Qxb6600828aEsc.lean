import Derived.Test.Qxb6600828aMake
namespace Go.Proofs.Qxb6600828a
open Go.RowKit Plain

def gm (l : List Int) (f m j : Nat) : Bool := decide (f ≤ j) && decide (j < f + m) && mk l f (j - f)
def marks (l : List Int) (f j : Nat) : Bool := decide (f ≤ j) && mk l f (j - f)

theorem gm_zero (l : List Int) (f j : Nat) : gm l f 0 j = false := by
  unfold gm
  simp only [Bool.and_eq_false_iff, decide_eq_false_iff_not]
  by_cases h : f ≤ j
  · left; right; omega
  · left; left; exact h
theorem gm_step {l : List Int} {f m : Nat} (h : mk l f m = false) (j : Nat) : gm l f (m + 1) j = gm l f m j := by
  unfold gm
  by_cases e : j = f + m
  · subst e
    have h1 : f + m - f = m := by omega
    rw [h1, h]; simp
  · have : decide (j < f + (m + 1)) = decide (j < f + m) := by
      rw [Bool.eq_iff_iff]; simp; omega
    rw [this]
theorem gm_next {l : List Int} {f m : Nat} (j : Nat) (hj : j ≠ f + m) : gm l f (m + 1) j = gm l f m j := by
  unfold gm
  have : decide (j < f + (m + 1)) = decide (j < f + m) := by
    rw [Bool.eq_iff_iff]; simp; omega
  rw [this]
theorem gm_at {l : List Int} {f m : Nat} : gm l f (m + 1) (f + m) = mk l f m := by
  unfold gm
  have h1 : f + m - f = m := by omega
  rw [h1]; simp
theorem gm_all {l : List Int} {f m j : Nat} (h : j < f + m) : gm l f m j = marks l f j := by
  unfold gm marks; simp [h]

def Esc (l : List Int) (f m : Nat) (xs : List Value) : Prop := xs.length = l.length ∧ ∀ j, j < l.length → xs[j]? = some (.bool (gm l f m j))

theorem Esc.plain {l : List Int} {f m : Nat} {xs : List Value} (h : Esc l f m xs) (hm : mk l f m = false) : Esc l f (m + 1) xs :=
  ⟨h.1, fun j hj => by rw [gm_step hm]; exact h.2 j hj⟩
theorem Esc.pair {l : List Int} {f m : Nat} {xs : List Value} (h : Esc l f m xs) (hm : mk l f m = false) (hp : mk l f (m + 1) = true) (hlt : f + m + 1 < l.length) : Esc l f (m + 2) (xs.set (f + m + 1) (.bool true)) := by
  refine ⟨by simpa using h.1, fun j hj => ?_⟩
  rw [List.getElem?_set]
  by_cases e : f + m + 1 = j
  · subst e
    rw [if_pos rfl, if_pos (by rw [h.1]; exact hlt)]
    have : gm l f (m + 2) (f + m + 1) = mk l f (m + 1) := gm_at
    rw [this, hp]
  · rw [if_neg e, gm_next j (by omega), gm_step hm]; exact h.2 j hj

theorem getD_of {l : List Int} {k : Nat} (h : k < l.length) : l.getD k 0 = l[k] := by simp [h]

theorem makes_one (z : Value) (n : Nat) : (madeCells #[z] n).toList = List.replicate n z := by
  simp [madeCells, Nat.mod_one, List.map_const']

set_option maxHeartbeats 2000000 in
theorem esc27 (ad : Option Addr) (c : Nat) (l : List Int) (f : Nat) (w : World) (hv : View w ad l) (hn : l.length ≤ 1048576) (hf : f ≤ l.length) :
    Calls Try.prog 27 #[.slice ad l.length c, .int .i64 f] w fun e w' => e = .returned (.slice (some ⟨w.heap.size, 0, none⟩) l.length l.length) ∧ BView w' w.heap.size l.length (marks l f) ∧ Below w.heap.size w w' := by
  have HV : Hid (View w ad l) := hv
  clear hv
  obtain ⟨i0, hi, hz0, hz1, hz2⟩ := info_parts Try.info4
  have SB : Hid (i0.bytes * l.length ≤ 281474976710656 ∧ l.length ≤ maxLen) := ⟨by rw [hz2]; omega, by unfold maxLen; omega⟩
  go_enter Try.func27, Try.ntmps27
  go_wp2_with (refine wpList_make_full _ rfl _ _ 41 rfl w.heap.size 4 i0 (.bool false) 1 Try.underlying41 hi hz0 hz1 .i64 .i64 _ _ l.length rfl rfl rfl rfl SB.out.1 SB.out.2 (Nat.le_refl _) ?_)
  intro w1 hown hgrow
  have X0 : Hid (∃ xs, w1.ownsRow w.heap.size 4 1 (.slice (some ⟨w.heap.size, 0, none⟩) l.length l.length) l.length xs ∧ Esc l f 0 xs ∧ Below w.heap.size w w1) := by
    refine ⟨_, hown, ⟨by have := hown.1; omega, fun j hj => ?_⟩, (Below.refl _ _).grown hgrow (Nat.le_refl _) (by simp)⟩
    rw [gm_zero, makes_one]
    simp [hj]
  clear hown hgrow
  go_wp2
  go_loopw [6] (fun i wr => ∃ (m : Nat) (xs : List Value), f + m ≤ l.length ∧ i = .int .i64 ((f + m : Nat) : Int) ∧ Hid (mk l f m = false) ∧ Hid (wr.ownsRow w.heap.size 4 1 (.slice (some ⟨w.heap.size, 0, none⟩) l.length l.length) l.length xs) ∧ Hid (Esc l f m xs) ∧ Hid (Below w.heap.size w wr)) (fun i _ => l.length - (intOf i).toNat)
  case atStart =>
    obtain ⟨xs, h1, h2, h3⟩ := X0.out
    exact ⟨0, xs, by omega, rfl, rfl, h1, h2, h3⟩
  case round =>
    obtain ⟨m, xs, hm, rfl, hmk, ho, he, hb⟩ := hrel
    by_cases hlt : f + m < l.length
    · obtain ⟨b, off, rfl, hc⟩ := HV.out (f + m) hlt
      have hcr := cell_later hb.out hc
      have G1 : Hid _ := getD_of hlt
      obtain ⟨x, hx⟩ : ∃ x, l[f + m] = x := ⟨_, rfl⟩
      rw [hx] at hcr G1
      clear hx hc
      by_cases h92 : x = 92
      · subst h92
        by_cases hl2 : f + m + 1 < l.length
        · obtain ⟨b', off', e', hc'⟩ := HV.out (f + m + 1) hl2
          have hcr' := cell_later hb.out hc'
          obtain ⟨rfl, rfl⟩ : b = b' ∧ off = off' := by simpa using e'
          have G2 : Hid _ := getD_of hl2
          obtain ⟨y, hy⟩ : ∃ y, l[f + m + 1] = y := ⟨_, rfl⟩
          rw [hy] at hcr' G2
          clear hy hc' e'
          have hpb : pairB l (f + m) = punctB y := by
            unfold pairB; rw [G1.out, G2.out]; simp [hl2]
          have hpb' : Hid (pairB l (f + m) = punctB y) := hpb
          clear hpb
          cases hp : punctB y with
          | true =>
            rw [hp] at hpb'
            obtain ⟨k1, k2⟩ := mk_pair hmk.out hpb'.out
            have hf' := ho.out.frozenAt (f + m + 1)
            obtain ⟨old, hold⟩ : ∃ old, wr.cell? ⟨w.heap.size, f + m + 1, none⟩ = some old := by
              rw [ho.out.cellAt (f + m + 1) (by omega)]
              exact ⟨_, List.getElem?_eq_getElem (by have := ho.out.1; omega)⟩
            have X : Hid (Hid (mk l f (m + 2) = false) ∧ Hid ((wr.setCell ⟨w.heap.size, f + m + 1, none⟩ (.bool true)).ownsRow w.heap.size 4 1 (.slice (some ⟨w.heap.size, 0, none⟩) l.length l.length) l.length (xs.set (f + m + 1) (.bool true))) ∧ Hid (Esc l f (m + 2) (xs.set (f + m + 1) (.bool true))) ∧ Hid (Below w.heap.size w (wr.setCell ⟨w.heap.size, f + m + 1, none⟩ (.bool true)))) :=
              ⟨k2, (ho.out.stored (f + m + 1) (.bool true)).1, he.out.pair hmk.out k1 hl2, hb.out.setCell (Nat.le_refl _) _⟩
            have CP : Hid (∀ wx, Calls Try.prog 34 #[.int .u8 y] wx fun e w' => e = .returned (.bool true) ∧ w' = wx) := fun wx => by have := punct34 y wx; rw [hp] at this; exact this
            clear k1 k2 hp ho he hb hmk
            go_wp2_with (go_at_call 34; refine (CP.out _).mono ?_; rintro e w' ⟨rfl, rfl⟩)
            go_roundw
            case rel => exact ⟨m + 2, _, by omega, by go_num, X.out⟩
            case measure => simp [intOf]; omega
          | false =>
            rw [hp] at hpb'
            have X : Hid (Hid (mk l f (m + 1) = false) ∧ Hid (Esc l f (m + 1) xs)) := ⟨mk_plain hmk.out hpb'.out, he.out.plain hmk.out⟩
            have CP : Hid (∀ wx, Calls Try.prog 34 #[.int .u8 y] wx fun e w' => e = .returned (.bool false) ∧ w' = wx) := fun wx => by have := punct34 y wx; rw [hp] at this; exact this
            clear hp he hmk
            go_wp2_with (go_at_call 34; refine (CP.out _).mono ?_; rintro e w' ⟨rfl, rfl⟩)
            go_roundw
            case rel => exact ⟨m + 1, xs, by omega, by go_num, X.out.1, ho, X.out.2, hb⟩
            case measure => simp [intOf]; omega
        · have hpb' : Hid (pairB l (f + m) = false) := by
            show _ = _
            unfold pairB; simp [hl2]
          have X : Hid (Hid (mk l f (m + 1) = false) ∧ Hid (Esc l f (m + 1) xs)) := ⟨mk_plain hmk.out hpb'.out, he.out.plain hmk.out⟩
          clear he hmk
          have hd : decide ((f : Int) + (m : Int) + 1 < (l.length : Int)) = false := decide_eq_false (by omega)
          go_wp2_with fail
          go_roundw
          case rel => exact ⟨m + 1, xs, by omega, by go_num, X.out.1, ho, X.out.2, hb⟩
          case measure => simp [intOf]; omega
      · have hpb' : Hid (pairB l (f + m) = false) := by
          show _ = _
          unfold pairB; rw [G1.out]; simp [h92]
        have X : Hid (Hid (mk l f (m + 1) = false) ∧ Hid (Esc l f (m + 1) xs)) := ⟨mk_plain hmk.out hpb'.out, he.out.plain hmk.out⟩
        clear he hmk
        have hd : (x == 92) = false := by simp [h92]
        go_wp2_with fail
        go_roundw
        case rel => exact ⟨m + 1, xs, by omega, by go_num, X.out.1, ho, X.out.2, hb⟩
        case measure => simp [intOf]; omega
    · have X : Hid (BView wr w.heap.size l.length (marks l f) ∧ Below w.heap.size w wr) := by
        refine ⟨fun j hj => ?_, hb.out⟩
        rw [ho.out.cellAt j (by omega), he.out.2 j hj, gm_all (by omega)]
      clear ho he hb hmk
      go_wp2
      go_ret
      exact ⟨rfl, X.out⟩

end Go.Proofs.Qxb6600828a
