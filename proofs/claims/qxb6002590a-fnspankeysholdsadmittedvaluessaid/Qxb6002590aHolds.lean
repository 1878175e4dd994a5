import Derived.Test.Qxb6002590aExact
import Derived.Test.Qxb6002590aPlain3
namespace Go.Proofs.Qxb6002590a
open Go.RowKit Plain

set_option maxHeartbeats 1000000 in
theorem bytes11 (a0 a1 a5 a6 a7 : Option Addr) (n0 n1 n5 n6 n7 c0 c1 c5 c6 c7 : Nat) (x y z : Bool) (w : World) (h0 : n0 ≤ 9223372036854775807) (h1 : n1 ≤ 9223372036854775807) (h5 : n5 ≤ 9223372036854775807) (h6 : n6 ≤ 9223372036854775807) (h7 : n7 ≤ 9223372036854775807) :
    Calls Try.prog 11 #[.slice a0 n0 c0, .slice a1 n1 c1, .bool x, .bool y, .bool z, .slice a5 n5 c5, .slice a6 n6 c6, .slice a7 n7 c7] w fun e w' => (∃ b, e = .returned (.bool b) ∧ (b = true → n0 + n1 + n5 + n6 + n7 ≤ 1048576)) ∧ w' = w := by
  go_enter Try.func11, Try.ntmps11
  go_wp2
  all_goals
    go_ret
    first
    | exact ⟨⟨false, rfl, by simp⟩, rfl⟩
    | exact ⟨⟨true, rfl, by intro; omega⟩, rfl⟩

set_option maxHeartbeats 1000000 in
theorem proper_any (ad : Option Addr) (c : Nat) (p : List Int) (ad2 : Option Addr) (c2 : Nat) (k : List Int) (w : World) (hv : View w ad p) (hv2 : View w ad2 k) (hn : k.length ≤ 9223372036854775807) :
    Calls Try.prog 30 #[.slice ad p.length c, .slice ad2 k.length c2] w fun e w' => e = .returned (.bool (properL p k)) ∧ ∃ n, w' = w.drewN n := by
  have HV : Hid (View w ad p ∧ View w ad2 k) := ⟨hv, hv2⟩
  clear hv hv2
  by_cases h : p.length < k.length
  · go_enter Try.func30, Try.ntmps30
    go_wp2_with fail
    refine (hasPrefix_any ad2 c2 k ad c p w HV.out.2 HV.out.1 hn).mono ?_
    rintro e w' ⟨rfl, n, rfl⟩
    go_wp2_with fail
    go_ret
    exact ⟨ret_bool (by simp [properL, h]), n, rfl⟩
  · have hd : decide ((p.length : Int) < (k.length : Int)) = false := decide_eq_false (by omega)
    go_enter Try.func30, Try.ntmps30
    go_wp2_with fail
    go_ret
    exact ⟨ret_bool (by simp only [properL]; rw [decide_eq_false h]; rfl), 0, rfl⟩

set_option maxHeartbeats 1000000 in
theorem free_any (ad : Option Addr) (c : Nat) (v : List Int) (ad2 : Option Addr) (c2 : Nat) (b : List Int) (w : World) (hv : View w ad v) (hv2 : View w ad2 b) (hn : v.length ≤ 9223372036854775807) (hn2 : b.length ≤ 9223372036854775807) :
    Calls Try.prog 13 #[.slice ad v.length c, .slice ad2 b.length c2] w fun e w' => e = .returned (.bool (freeL ad2.isNone v b)) ∧ ∃ n, w' = w.drewN n := by
  have HV : Hid (View w ad v ∧ View w ad2 b) := ⟨hv, hv2⟩
  clear hv hv2
  have hq := fun w => Lib.run_eql_slice_nil (P := Try.prog) w 22 5 ad2 b.length c2 0 0 Try.underlying22
  cases e1 : ad2.isNone with
  | true =>
    rw [e1] at hq
    clear e1
    go_enter Try.func13, Try.ntmps13
    go_wp2_with fail
    go_ret
    exact ⟨ret_bool rfl, 0, rfl⟩
  | false =>
    rw [e1] at hq
    clear e1
    go_enter Try.func13, Try.ntmps13
    go_wp2_with fail
    refine (proper_any ad2 c2 b ad c v w HV.out.2 HV.out.1 hn).mono ?_
    rintro e w1 ⟨rfl, n, rfl⟩
    cases e2 : properL b v with
    | true =>
      have HE : Hid _ := e2
      clear e2
      go_wp2_with fail
      go_ret
      exact ⟨ret_bool (by simp [freeL, HE.out]), n, rfl⟩
    | false =>
      have HE : Hid _ := e2
      clear e2
      go_wp2_with fail
      refine (proper_any ad c v ad2 c2 b _ (by exact HV.out.1) (by exact HV.out.2) hn2).mono ?_
      rintro e w1 ⟨rfl, m, rfl⟩
      go_wp2_with fail
      go_ret
      exact ⟨ret_bool (by simp [freeL, HE.out]), _, rfl⟩

set_option maxHeartbeats 1000000 in
theorem inRange_any (q1 q2 : Option Addr) (o1 o2 : Option (List Int)) (ak : Option Addr) (ck : Nat) (k : List Int) (w : World) (hb1 : BoundIs w (.pointer q1) false o1) (hb2 : BoundIs w (.pointer q2) true o2) (hk : View w ak k) (hn : k.length ≤ 9223372036854775807) (h1 : aboveB o1 k = true) (h2 : belowB o2 k = true) :
    Calls Try.prog 14 #[.agg #[.pointer q1, .pointer q2, .bool false, .int .i64 0], .slice ak k.length ck] w fun e w' => e = .returned (.bool true) ∧ Below w.heap.size w w' := by
  have hb0 : Below w.heap.size w (w.alloc (.cells #[.pointer q1, .pointer q2, .bool false, .int .i64 0] 27)) := (Below.refl _ _).alloc (Nat.le_refl _) _
  have hh := heap_alloc_new w (.cells #[.pointer q1, .pointer q2, .bool false, .int .i64 0] 27)
  have HV : Hid (BoundIs w (.pointer q1) false o1 ∧ BoundIs w (.pointer q2) true o2 ∧ View w ak k ∧ aboveB o1 k = true ∧ belowB o2 k = true ∧ Below w.heap.size w (w.alloc (.cells #[.pointer q1, .pointer q2, .bool false, .int .i64 0] 27))) := ⟨hb1, hb2, hk, h1, h2, hb0⟩
  have HH : Hid _ := hh
  clear hb1 hb2 hk h1 h2 hb0 hh
  go_enter Try.func14, Try.ntmps14
  go_wp2_with fail
  refine (above_any (.pointer q2) q1 o1 ak ck k _ (HV.out.1.later HV.out.2.2.2.2.2) (HV.out.2.2.1.below HV.out.2.2.2.2.2) hn).mono ?_
  rw [HV.out.2.2.2.1]
  rintro e w1 ⟨rfl, hb⟩
  have hh1 := (hb.block w.heap.size (by simp)).trans HH.out
  have cb0 : w1.cell? ⟨w.heap.size, 0, none⟩ = some (.pointer q1) := by rw [cell_of_row w1 _ _ _ _ _ hh1]; rfl
  have cb1 : w1.cell? ⟨w.heap.size, 1, none⟩ = some (.pointer q2) := by rw [cell_of_row w1 _ _ _ _ _ hh1]; rfl
  have cb2 : w1.cell? ⟨w.heap.size, 2, none⟩ = some (.bool false) := by rw [cell_of_row w1 _ _ _ _ _ hh1]; rfl
  have cb3 : w1.cell? ⟨w.heap.size, 3, none⟩ = some (.int .i64 0) := by rw [cell_of_row w1 _ _ _ _ _ hh1]; rfl
  have HB : Hid (Below w.heap.size w w1) := HV.out.2.2.2.2.2.trans (hb.mono (by simp))
  clear hb hh1
  go_wp2_with fail
  refine (below_any (.pointer q1) q2 o2 ak ck k _ (HV.out.2.1.later HB.out) (HV.out.2.2.1.below HB.out) hn).mono ?_
  rw [HV.out.2.2.2.2.1]
  rintro e w2 ⟨rfl, hb2⟩
  have HB2 : Hid (Below w.heap.size w w2) := HB.out.trans (hb2.mono HB.out.size)
  clear hb2
  go_wp2_with fail
  go_ret
  exact ⟨rfl, HB2.out⟩

set_option maxHeartbeats 2000000 in
theorem admits_any (ad : Option Addr) (c : Nat) (v : List Int) (a1 : Option Addr) (c1 : Nat) (lo : List Int) (a2 : Option Addr) (c2 : Nat) (hi : List Int) (le he : Bool) (w : World) (hv : View w ad v) (hv1 : View w a1 lo) (hv2 : View w a2 hi) (hn : v.length ≤ 9223372036854775807) :
    Calls Try.prog 12 #[.slice ad v.length c, .slice a1 lo.length c1, .slice a2 hi.length c2, .bool le, .bool he] w fun e w' => e = .returned (.bool (admitsL a1.isNone a2.isNone le he v lo hi)) ∧ ∃ n, w' = w.drewN n := by
  have HV : Hid (View w ad v ∧ View w a1 lo ∧ View w a2 hi) := ⟨hv, hv1, hv2⟩
  clear hv hv1 hv2
  have hq1 := fun w => run_neq_slice_nil_any (P := Try.prog) w 22 5 a1 lo.length c1 0 0 Try.underlying22
  have hq2 := fun w => run_neq_slice_nil_any (P := Try.prog) w 22 5 a2 hi.length c2 0 0 Try.underlying22
  cases e1 : a1.isNone <;> cases e2 : a2.isNone
  all_goals
    rw [e1] at hq1
    rw [e2] at hq2
    simp only [Bool.not_false, Bool.not_true] at hq1 hq2
    clear e1 e2
  case true.true =>
    go_enter Try.func12, Try.ntmps12
    go_wp2_with fail
    go_ret
    exact ⟨ret_bool rfl, 0, rfl⟩
  case true.false =>
    go_enter Try.func12, Try.ntmps12
    go_wp2_with fail
    refine (cmp_any ad c v a2 c2 hi w HV.out.1 HV.out.2.2 hn).mono ?_
    rintro e w1 ⟨rfl, n, rfl⟩
    generalize hd : cmpL v hi = d
    have HD : Hid _ := hd
    clear hd
    go_wp2_with fail
    all_goals
      go_ret
      refine ⟨ret_bool ?_, _, rfl⟩
      unfold admitsL
      rw [HD.out]
      clear HV hq1 hq2 HD
      simp_all
  case false.true =>
    go_enter Try.func12, Try.ntmps12
    go_wp2_with fail
    refine (cmp_any ad c v a1 c1 lo w HV.out.1 HV.out.2.1 hn).mono ?_
    rintro e w1 ⟨rfl, n, rfl⟩
    generalize hd : cmpL v lo = d
    have HD : Hid _ := hd
    clear hd
    go_wp2_with fail
    all_goals
      go_ret
      refine ⟨ret_bool ?_, _, rfl⟩
      unfold admitsL
      rw [HD.out]
      clear HV hq1 hq2 HD
      simp_all
  case false.false =>
    obtain ⟨d2, hd2⟩ : ∃ d2, cmpL v hi = d2 := ⟨_, rfl⟩
    have cmp2 := fun wx h1 h2 => cmp_any ad c v a2 c2 hi wx h1 h2 hn
    rw [hd2] at cmp2
    have CMP2 : Hid _ := cmp2
    have HD2 : Hid _ := hd2
    clear cmp2 hd2
    go_enter Try.func12, Try.ntmps12
    go_wp2_with fail
    refine (cmp_any ad c v a1 c1 lo w HV.out.1 HV.out.2.1 hn).mono ?_
    rintro e w1 ⟨rfl, n, rfl⟩
    generalize hd : cmpL v lo = d
    have HD : Hid _ := hd
    clear hd
    go_wp2_with (go_at_call 26; refine (CMP2.out _ (by exact HV.out.1) (by exact HV.out.2.2)).mono ?_; rintro e w2 ⟨rfl, m, rfl⟩)
    all_goals
      go_ret
      refine ⟨ret_bool ?_, _, rfl⟩
      unfold admitsL
      rw [HD.out, HD2.out]
      clear HV hq1 hq2 HD HD2 CMP2
      simp_all

end Go.Proofs.Qxb6002590a
