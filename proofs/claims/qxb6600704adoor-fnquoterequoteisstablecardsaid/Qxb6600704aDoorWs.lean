import Derived.Test.Qxb6600704aDoorBuild
import Derived.Test.Qxb6600704aDoorSpace
namespace Go.Proofs.Qxb6600704aDoor
open Go.RowKit Plain

theorem ret_int {a b : Int} (h : a = b) : Ending.returned (.int .i64 a) = .returned (.int .i64 b) := by rw [h]

set_option maxHeartbeats 8000000 in
theorem ws13C (s : ByteArray) (k : Nat) (w : World) (hs : s.size ≤ 9223372036854775797) (hk : k < s.size) (hk1 : ¬ k + 1 < s.size) (c d e : Nat) (hc : s[k].toNat = c) (r : Int) (HR : Hid ((ws c d e (s.size - k) : Int) = r)) :
    Calls Tryd.prog 13 #[.string s, .int .i64 k] w fun e w' => e = .returned (.int .i64 r) ∧ w' = w := by
  go_enter Tryd.func13, Tryd.ntmps13
  go_wp2
  all_goals
    go_ret
    refine ⟨ret_int ?_, rfl⟩
    rw [← HR.out]
    clear HR hc
    try simp only [beq_iff_eq, beq_eq_false_iff_ne, ne_eq] at *
    unfold ws
    repeat' split
    all_goals omega

set_option maxHeartbeats 8000000 in
theorem ws13B (s : ByteArray) (k : Nat) (w : World) (hs : s.size ≤ 9223372036854775797) (hk : k < s.size) (hk1 : k + 1 < s.size) (hk2 : ¬ k + 2 < s.size) (c d e : Nat) (hc : s[k].toNat = c) (hd : s[k + 1].toNat = d) (r : Int) (HR : Hid ((ws c d e (s.size - k) : Int) = r)) :
    Calls Tryd.prog 13 #[.string s, .int .i64 k] w fun e w' => e = .returned (.int .i64 r) ∧ w' = w := by
  go_enter Tryd.func13, Tryd.ntmps13
  go_wp2
  all_goals
    go_ret
    refine ⟨ret_int ?_, rfl⟩
    rw [← HR.out]
    clear HR hc hd
    try simp only [beq_iff_eq, beq_eq_false_iff_ne, ne_eq] at *
    unfold ws
    repeat' split
    all_goals omega

set_option maxHeartbeats 8000000 in
theorem ws13A (s : ByteArray) (k : Nat) (w : World) (hs : s.size ≤ 9223372036854775797) (hk : k < s.size) (hk1 : k + 1 < s.size) (hk2 : k + 2 < s.size) (c d e : Nat) (hc : s[k].toNat = c) (hd : s[k + 1].toNat = d) (he : s[k + 2].toNat = e) (r : Int) (HR : Hid ((ws c d e (s.size - k) : Int) = r)) :
    Calls Tryd.prog 13 #[.string s, .int .i64 k] w fun e w' => e = .returned (.int .i64 r) ∧ w' = w := by
  go_enter Tryd.func13, Tryd.ntmps13
  go_wp2
  all_goals
    go_ret
    refine ⟨ret_int ?_, rfl⟩
    rw [← HR.out]
    clear HR hc hd he
    try simp only [beq_iff_eq, beq_eq_false_iff_ne, ne_eq] at *
    unfold ws
    repeat' split
    all_goals omega

theorem drop_at (s : ByteArray) (k : Nat) (hk : k < s.size) : s.data.toList.drop k = s[k] :: s.data.toList.drop (k + 1) := by
  rw [List.drop_eq_getElem_cons (by simpa using hk)]
  rfl

theorem ws13 (s : ByteArray) (k : Nat) (w : World) (hs : s.size ≤ 9223372036854775797) (hk : k < s.size) (r : Nat) (HR : Hid (Lib.headSpace (s.data.toList.drop k) = r)) :
    Calls Tryd.prog 13 #[.string s, .int .i64 k] w fun e w' => e = .returned (.int .i64 (r : Int)) ∧ w' = w := by
  have h := HR.out
  rw [drop_at s k hk, wsL] at h
  have hl : (s.data.toList.drop (k + 1)).length + 1 = s.size - k := by simp; omega
  rw [hl] at h
  by_cases hk1 : k + 1 < s.size
  · have h1 : (s.data.toList.drop (k + 1)).getD 0 0 = s[k + 1] := by rw [drop_at s (k + 1) hk1]; rfl
    by_cases hk2 : k + 2 < s.size
    · have h2 : (s.data.toList.drop (k + 1)).getD 1 0 = s[k + 2] := by rw [drop_at s (k + 1) hk1, List.getD_cons_succ, drop_at s (k + 1 + 1) hk2]; rfl
      rw [h1, h2] at h
      exact ws13A s k w hs hk hk1 hk2 _ _ _ rfl rfl rfl r (by show ((_ : Nat) : Int) = r; rw [h])
    · rw [h1] at h
      exact ws13B s k w hs hk hk1 hk2 _ _ _ rfl rfl r (by show ((_ : Nat) : Int) = r; rw [h])
  · exact ws13C s k w hs hk hk1 _ _ _ rfl r (by show ((_ : Nat) : Int) = r; rw [h])
end Go.Proofs.Qxb6600704aDoor
