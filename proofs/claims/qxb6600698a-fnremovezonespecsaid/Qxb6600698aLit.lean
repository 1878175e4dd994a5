import Derived.Test.Qxb6600698aLeaf
namespace Go.Proofs.Qxb6600698a
open Go.RowKit Plain

theorem grown_drewN (w : World) (n : Nat) : Grown w (w.drewN n) := Grown.refl w

set_option maxHeartbeats 1000000 in
theorem bytes9 (s t u : ByteArray) (w : World) (h0 : s.size ≤ 9223372036854775807) (h1 : t.size ≤ 9223372036854775807) (h2 : u.size ≤ 9223372036854775807) :
    Calls Try.prog 9 #[.string s, .string t, .string u] w fun e w' => (∃ b, e = .returned (.bool b) ∧ (b = true → s.size + t.size + u.size ≤ 1048576)) ∧ w' = w := by
  go_enter Try.func9, Try.ntmps9
  go_wp2
  all_goals
    go_ret
    first
    | exact ⟨⟨false, rfl, by simp⟩, rfl⟩
    | exact ⟨⟨true, rfl, by intro; omega⟩, rfl⟩

theorem lit_plain (s t u : ByteArray) (h1 : (37 : UInt8) ∉ t.data.toList) (h2 : (93 : UInt8) ∉ u.data.toList) :
    rzL ({ data := #[91] } ++ s ++ { data := #[37] } ++ t ++ { data := #[93] } ++ u : ByteArray).data.toList = ({ data := #[91] } ++ s ++ { data := #[93] } ++ u : ByteArray).data.toList := by
  simp only [ByteArray.data_append, Array.toList_append]
  have := rz_cut (l := 91 :: s.data.toList ++ 37 :: t.data.toList ++ 93 :: u.data.toList) (a := 91 :: s.data.toList ++ 37 :: t.data.toList) (b := u.data.toList) (p := 91 :: s.data.toList) (q := t.data.toList) (by simp) rfl h2 rfl h1
  simpa using this

set_option maxHeartbeats 2000000 in
theorem lit_walk (s t u : ByteArray) (w : World) (h0 : s.size ≤ 9223372036854775807) (h1 : t.size ≤ 9223372036854775807) (h2 : u.size ≤ 9223372036854775807) :
    Calls Try.prog 4 #[.string s, .string t, .string u] w fun e w' => e = .returned (.bool true) ∧ ∃ n, w' = w.drewN n := by
  go_enter Try.func4, Try.ntmps4
  go_wp2_with fail
  refine (bytes9 s t u w h0 h1 h2).mono ?_
  rintro e w' ⟨⟨b, rfl, hb⟩, rfl⟩
  cases b with
  | false =>
    clear hb
    go_wp2_with fail
    go_ret
    exact ⟨rfl, 0, rfl⟩
  | true =>
    have hsum := hb rfl
    clear hb
    have t0 : ¬ (1048576 < s.size) := by omega
    have t1 : ¬ (1048576 < t.size) := by omega
    have t2 : ¬ (1048576 < u.size) := by omega
    have t3 : ¬ (1048576 < s.size + t.size + u.size) := by omega
    go_wp2_with fail
    refine (hasByte t 37 37 w' _ rfl rfl h1).mono ?_
    rintro e w1 ⟨rfl, rfl⟩
    by_cases m1 : (37 : UInt8) ∈ t.data.toList
    · rw [decide_eq_true m1]
      clear m1
      go_wp2_with fail
      go_ret
      exact ⟨rfl, 0, rfl⟩
    rw [decide_eq_false m1]
    have M1 : Hid _ := m1
    clear m1
    go_wp2_with fail
    refine (hasByte t 93 93 w1 _ rfl rfl h1).mono ?_
    rintro e w2 ⟨rfl, rfl⟩
    by_cases m2 : (93 : UInt8) ∈ t.data.toList
    · rw [decide_eq_true m2]
      clear m2
      go_wp2_with fail
      go_ret
      exact ⟨rfl, 0, rfl⟩
    rw [decide_eq_false m2]
    clear m2
    go_wp2_with fail
    refine (hasByte u 93 93 w2 _ rfl rfl h2).mono ?_
    rintro e w3 ⟨rfl, rfl⟩
    by_cases m3 : (93 : UInt8) ∈ u.data.toList
    · rw [decide_eq_true m3]
      clear m3
      go_wp2_with fail
      go_ret
      exact ⟨rfl, 0, rfl⟩
    rw [decide_eq_false m3]
    have M3 : Hid _ := m3
    clear m3
    go_wp2_with fail
    have HZ : Hid _ := lit_plain s t u M1.out M3.out
    refine (remove7 _ w3 ?_).mono ?_
    · simp only [ByteArray.size_append]
      show (1 + s.size + 1 + t.size + 1 + u.size) ≤ _
      omega
    rintro e w4 ⟨⟨r, rfl, hr⟩, n, rfl⟩
    have HR : Hid _ := hr
    clear hr
    go_wp2_with fail
    go_ret
    refine ⟨ret_bool ?_, n, rfl⟩
    rw [ByteArray.toList_eq, ByteArray.toList_eq, HR.out.trans HZ.out]
    simp

end Go.Proofs.Qxb6600698a
