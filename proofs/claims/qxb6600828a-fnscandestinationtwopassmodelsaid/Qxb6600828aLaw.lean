import Derived.Test.Qxb6600828aDest2
namespace Go.Proofs.Qxb6600828a
open Go.RowKit Plain

theorem scan26 (ad : Option Addr) (c : Nat) (l : List Int) (i : Nat) (w : World) (hv : View w ad l) (hn : l.length ≤ 1048576) (hlc : l.length ≤ c) (hi : i ≤ l.length) :
    Calls Try.prog 26 #[.slice ad l.length c, .int .i64 i] w fun e w' => ScanPost l i ad c w e w' := by
  by_cases h : i < l.length ∧ l.getD i 0 = 60
  · obtain ⟨b, off, rfl, _⟩ := hv i h.1
    exact scan_ang b off c l i w hv hn hlc h.1 h.2
  · exact scan_bare ad c l i w hv hn hlc hi h

theorem dest13 (ad : Option Addr) (c : Nat) (l : List Int) (i : Nat) (w : World) (hv : View w ad l) (hn : l.length ≤ 1048576) (hi : i ≤ l.length) :
    Calls Try.prog 13 #[.slice ad l.length c, .int .i64 i] w fun e w' => DestPost l i w e w' := by
  by_cases h : i < l.length ∧ l.getD i 0 = 60
  · obtain ⟨b, off, rfl, _⟩ := hv i h.1
    exact dest_ang b off c l i w hv hn h.1 h.2
  · exact dest_bare ad c l i w hv hn hi h

set_option maxHeartbeats 1000000 in
theorem scan12 (ad : Option Addr) (c : Nat) (l : List Int) (i : Nat) (w : World) (hv : View w ad l) (hn : l.length ≤ 1048576) (hlc : l.length ≤ c) (hi : i ≤ l.length) :
    Calls Try.prog 12 #[.slice ad l.length c, .int .i64 i] w fun e w' => ScanPost l i ad c w e w' := by
  have HV : Hid (View w ad l) := hv
  clear hv
  go_enter Try.func12, Try.ntmps12
  go_wp2_with fail
  refine (scan26 ad c l i w HV.out hn hlc hi).mono ?_
  rintro e w' ⟨hr, rfl⟩
  rcases hr with ⟨hs, rfl⟩ | ⟨a, b, en, blk, off, rfl, hs, h1, h2, h3, rfl⟩
  · have HS : Hid _ := hs
    clear hs
    go_wp2_with fail
    go_ret3
    exact ⟨.inl ⟨HS.out, rfl⟩, rfl⟩
  · have HS : Hid _ := hs
    clear hs
    go_wp2_with fail
    go_ret3
    exact ⟨.inr ⟨a, b, en, blk, off, rfl, HS.out, h1, h2, h3, rfl⟩, rfl⟩

set_option maxHeartbeats 1000000 in
theorem bytes10 (ad : Option Addr) (n c : Nat) (i : Int) (w : World) (h0 : n ≤ 9223372036854775807) :
    Calls Try.prog 10 #[.slice ad n c, .int .i64 i] w fun e w' => (∃ b, e = .returned (.bool b) ∧ (b = true → n ≤ 1048576)) ∧ w' = w := by
  go_enter Try.func10, Try.ntmps10
  go_wp2
  all_goals
    go_ret
    first
    | exact ⟨⟨false, rfl, by simp⟩, rfl⟩
    | exact ⟨⟨true, rfl, by intro; omega⟩, rfl⟩

/-- A part of a slice that is seen. -/
theorem View.sub {w : World} {blk off : Nat} {l : List Int} (h : View w (some ⟨blk, off, none⟩) l) (a b : Nat) (hb : b ≤ l.length) : View w (some ⟨blk, off + a, none⟩) ((l.drop a).take (b - a)) := by
  intro j hj
  have hj' : a + j < l.length := by simp at hj; omega
  obtain ⟨b', off', e, hc⟩ := h (a + j) hj'
  obtain ⟨rfl, rfl⟩ : blk = b' ∧ off = off' := by simpa using e
  refine ⟨blk, off + a, rfl, ?_⟩
  rw [Nat.add_assoc, hc]
  simp

theorem copy_full (ad : Option Addr) (c : Nat) (l : List Int) (w : World) (hv : View w ad l) (h0 : ad = none → l = []) (hn : l.length ≤ 140737488355328) :
    Calls Try.prog 11 #[.slice ad l.length c] w fun e w' => ∃ ad', e = .returned (.slice ad' l.length l.length) ∧ View w' ad' l ∧ Below w.heap.size w w' := by
  cases ad with
  | none =>
    obtain rfl := h0 rfl
    refine (copy_nil _ _ w).mono ?_
    rintro e w' ⟨rfl, rfl⟩
    exact ⟨none, rfl, view_nil _ _, Below.refl _ _⟩
  | some a =>
    refine (copy_some a c l w hv hn).mono ?_
    rintro e w' ⟨rfl, h⟩
    exact ⟨_, rfl, h⟩

theorem same_n (ad : Option Addr) (n c c2 : Nat) (l : List Int) (w : World) (hv : View w ad l) (hl : l.length = n) (hn : n ≤ 9223372036854775807) :
    Calls Try.prog 14 #[.slice ad n c, .slice ad n c2] w fun e w' => e = .returned (.bool true) ∧ ∃ n, w' = w.drewN n := by
  subst hl; exact same_any ad c l ad c2 w hv hv hn

set_option maxHeartbeats 2000000 in
set_option maxRecDepth 100000 in
theorem law_walk (ad : Option Addr) (c : Nat) (l : List Int) (i : Int) (w : World) (hv : View w ad l) (h0 : ad = none → l = []) (hl : l.length ≤ 9223372036854775807) :
    Calls Try.prog 3 #[.slice ad l.length c, .int .i64 i] w fun e w' => e = .returned (.bool true) ∧ Below w.heap.size w w' := by
  have HV : Hid (View w ad l ∧ (ad = none → l = [])) := ⟨hv, h0⟩
  clear hv h0
  go_enter Try.func3, Try.ntmps3
  go_wp2_with fail
  refine (bytes10 ad l.length c i w hl).mono ?_
  rintro e w' ⟨⟨b, rfl, hb⟩, rfl⟩
  cases b with
  | false =>
    clear hb
    go_wp2_with fail
    go_ret
    exact ⟨rfl, Below.refl _ _⟩
  | true =>
    have hsum := hb rfl
    clear hb
    by_cases hneg : i < 0
    · go_wp2_with fail
      go_ret
      exact ⟨rfl, Below.refl _ _⟩
    by_cases hbig : (l.length : Int) < i
    · go_wp2_with fail
      go_ret
      exact ⟨rfl, Below.refl _ _⟩
    obtain ⟨k, rfl⟩ := Int.eq_ofNat_of_zero_le (show 0 ≤ i by omega)
    have hk : k ≤ l.length := by omega
    clear hneg hbig
    go_wp2_with fail
    refine (copy_full ad c l w' HV.out.1 HV.out.2 (by omega)).mono ?_
    rintro e w1 ⟨ad', rfl, hv1, hb1⟩
    have H1 : Hid (View w1 ad' l ∧ Below w'.heap.size w' w1) := ⟨hv1, hb1⟩
    clear hv1 hb1 HV
    go_wp2_with fail
    refine (scan12 ad' l.length l k w1 H1.out.1 hsum (Nat.le_refl _) hk).mono ?_
    rintro e w2 ⟨hr, rfl⟩
    rcases hr with ⟨hs, rfl⟩ | ⟨a, b, en, blk, off, rfl, hs, ha1, ha2, ha3, rfl⟩
    · have HS : Hid (Sc l k none) := hs
      clear hs
      have hqn := fun w => Lib.run_eql_slice_nil (P := Try.prog) w 22 5 none 0 0 0 0 Try.underlying22
      simp only [Option.isNone_none] at hqn
      go_wp2_with fail
      refine (dest13 ad' l.length l k w2 H1.out.1 hsum hk).mono ?_
      rintro e w3 ⟨hr3, hb3⟩
      have HB : Hid (Below w'.heap.size w' w3) := H1.out.2.trans (hb3.mono H1.out.2.size)
      clear hb3
      rcases hr3 with ⟨hs3, rfl⟩ | ⟨a3, b3, en3, hs3, rfl⟩
      · clear hs3
        go_wp2_with fail
        go_ret
        exact ⟨rfl, HB.out⟩
      · exact absurd (sc_one HS.out hs3) (by simp)
    · have HS : Hid (Sc l k (some (a, b, en))) := hs
      clear hs
      go_wp2_with fail
      refine (dest13 _ l.length l k w2 H1.out.1 hsum hk).mono ?_
      rintro e w3 ⟨hr3, hb3⟩
      have HB : Hid (View w3 (some ⟨blk, off, none⟩) l ∧ Below w'.heap.size w' w3) := ⟨H1.out.1.below hb3, H1.out.2.trans (hb3.mono H1.out.2.size)⟩
      clear hb3
      rcases hr3 with ⟨hs3, rfl⟩ | ⟨a3, b3, en3, hs3, rfl⟩
      · exact absurd (sc_one HS.out hs3) (by simp)
      · have he := sc_one HS.out hs3
        simp only [Option.some.injEq, Prod.mk.injEq] at he
        obtain ⟨rfl, rfl, rfl⟩ := he
        clear hs3
        have HL : Hid (((l.drop a).take (b - a)).length = b - a) := by show _ = _; simp; omega
        have HW : Hid (View w3 (some ⟨blk, off + a, none⟩) ((l.drop a).take (b - a))) := HB.out.1.sub a b ha3
        go_wp2_with fail
        refine (same_n (some ⟨blk, off + a, none⟩) (b - a) (l.length - a) (l.length - a) ((l.drop a).take (b - a)) w3 HW.out HL.out (by omega)).mono ?_
        rintro e w4 ⟨rfl, n, rfl⟩
        go_wp2_with fail
        go_ret
        exact ⟨rfl, below_drewN HB.out.2 n⟩

/-- A slice that came in, as the walks take it. -/
theorem row_view {w : World} {a : Option Addr} {len cap : Nat} {zs : List Int}
    (h : (a = none ∧ len = 0 ∧ cap = 0 ∧ zs = []) ∨ ∃ x, a = some x ∧ len ≤ cap ∧ cap ≤ maxLen ∧ zs.length = cap ∧ (∀ i, i < zs.length → w.cell? (x.add i) = some (.int .u8 (zs.getD i 0))) ∧ ∀ n ∈ zs, (Lit.int .u8 n).wf = true) :
    ∃ l : List Int, l.length = len ∧ len ≤ 9223372036854775807 ∧ View w a l ∧ (a = none → l = []) := by
  rcases h with ⟨rfl, rfl, rfl, rfl⟩ | ⟨x, rfl, hlc, hcm, hz, hc, _⟩
  · exact ⟨[], rfl, by omega, view_nil _ _, fun _ => rfl⟩
  · refine ⟨zs.take len, by simp; omega, by unfold maxLen at hcm; omega, ?_, by intro e; simp at e⟩
    intro j hj
    have hj' : j < zs.length := by simp at hj; omega
    obtain ⟨b, off, spot⟩ := x
    have hspot : spot = none := by simpa [Addr.add] using World.cell?_spot (hc 0 (by omega))
    subst hspot
    refine ⟨b, off, rfl, ?_⟩
    have := hc j hj'
    rw [Addr.add_lit] at this
    rw [this]
    simp [hj']

end Go.Proofs.Qxb6600828a
