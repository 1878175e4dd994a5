import Derived.Test.Qxb6600698aRows
import Derived.Test.Qxb6600698aPlain
import Derived.WalkKit
import Derived.WalkSpells
import Derived.WalkLawsBesides
import Derived.RegionTactic
import Derived.Deep.QuietTactic
import Derived.BigQuiet
import Derived.Lib.Strings
import Derived.Lib.IndexBytes
namespace Go.Proofs.Qxb6600698a
open Go.RowKit Plain

theorem ret_int {k : IntKind} {a b : Int} (h : a = b) : Ending.returned (.int k a) = .returned (.int k b) := by rw [h]
theorem ret_bool {a b : Bool} (h : a = b) : Ending.returned (.bool a) = .returned (.bool b) := by rw [h]
theorem ret_str {a b : ByteArray} (h : a = b) : Ending.returned (.string a) = .returned (.string b) := by rw [h]

theorem byte_eq {x c : UInt8} {cn : Int} (hc : cn = (c.toNat : Int)) : ((x.toNat : Int) == cn) = decide (x = c) := by
  rw [Bool.eq_iff_iff]
  simp only [beq_iff_eq, decide_eq_true_eq, hc]
  constructor
  · intro h; exact UInt8.toNat_inj.1 (by omega)
  · intro h; rw [h]

def LastPost (l : List UInt8) (c : UInt8) (w : World) (e : Ending) (w' : World) : Prop := (∃ r, e = .returned (.int .i64 r) ∧ IsLast l c r) ∧ w' = w

set_option maxHeartbeats 1000000 in
theorem last16 (s : ByteArray) (c : UInt8) (cn : Int) (w : World) (hc : Hid (cn = (c.toNat : Int))) (hs : s.size ≤ 9223372036854775807) :
    Calls Try.prog 16 #[.string s, .int .u8 cn] w fun e w' => LastPost s.data.toList c w e w' := by
  go_enter Try.func16, Try.ntmps16
  go_wp2
  go_loop [5] (fun i => ∃ k : Nat, k ≤ s.size ∧ i = .int .i64 ((k : Int) - 1) ∧ Hid (∀ j (hj : j < s.data.toList.length), k ≤ j → s.data.toList[j] ≠ c)) (fun i => (intOf i + 1).toNat)
  case atStart => exact ⟨s.size, Nat.le_refl _, rfl, fun j hj h => by simp at hj; omega⟩
  case round =>
    obtain ⟨k, hk, rfl, hr⟩ := hrel
    cases k with
    | zero =>
      go_wp2
      go_ret
      exact ⟨⟨-1, rfl, isLast_miss fun j hj => hr.out j hj (Nat.zero_le _)⟩, rfl⟩
    | succ k =>
      have hks : k < s.size := by omega
      have hg : s.data.toList[k]'(by simpa using hks) = s[k] := rfl
      have HG : Hid _ := hg
      clear hg
      go_wp2
      · have hx : ((s[k].toNat : Int) == cn) = true := by assumption
        rw [byte_eq hc.out, decide_eq_true_eq] at hx
        go_ret
        refine ⟨⟨(k : Int), by simp, isLast_hit (by simpa using hks) (by rw [HG.out]; exact hx) fun j hj h => hr.out j hj (by omega)⟩, rfl⟩
      · have hx : ((s[k].toNat : Int) == cn) = false := by assumption
        rw [byte_eq hc.out, decide_eq_false_iff_not] at hx
        go_round
        case rel =>
          refine ⟨k, by omega, by go_num, fun j hj h => ?_⟩
          by_cases e : j = k
          · subst e; rw [HG.out]; exact hx
          · exact hr.out j hj (by omega)
        case measure => simp [intOf]


set_option maxHeartbeats 1000000 in
theorem last14 (s : ByteArray) (c : UInt8) (w : World) (hs : s.size ≤ 9223372036854775807) :
    Calls Try.prog 14 #[.string s, .string ⟨#[c]⟩] w fun e w' => LastPost s.data.toList c w e w' := by
  go_enter Try.func14, Try.ntmps14
  go_wp2_with (go_at_call 16; refine (last16 s c _ w ?_ hs).mono ?_; rfl; rintro e w' ⟨⟨r, rfl, hr⟩, rfl⟩; have HR : Hid _ := hr; clear hr)
  go_ret
  exact ⟨⟨r, rfl, HR.out⟩, rfl⟩

theorem head_extract (s : ByteArray) (c : UInt8) (h : 1 ≤ s.size) : ((s.extract 0 1).toList == [c]) = decide (s.data.toList.head? = some c) := by
  rw [ByteArray.toList_eq, Lib.extract_data]
  have hl : s.data.toList.length = s.size := by simp
  cases e : s.data.toList with
  | nil => rw [e] at hl; simp at hl; omega
  | cons x l => rw [Bool.eq_iff_iff]; simp

set_option maxHeartbeats 1000000 in
theorem prefix13 (s : ByteArray) (c : UInt8) (w : World) (b : Bool) (hb : Hid (decide (s.data.toList.head? = some c) = b)) :
    Calls Try.prog 13 #[.string s, .string ⟨#[c]⟩] w fun e w' => e = .returned (.bool b) ∧ w' = w := by
  by_cases h : 1 ≤ s.size
  · have h1 := head_extract s c h
    rw [hb.out] at h1
    have H1 : Hid _ := h1
    clear h1
    go_enter Try.func13, Try.ntmps13
    go_wp2
    go_ret
    exact ⟨ret_bool H1.out, rfl⟩
  · have hd : decide ((1 : Int) ≤ (s.size : Int)) = false := decide_eq_false (by omega)
    have h2 : b = false := by
      rw [← hb.out, decide_eq_false_iff_not]
      have hl : s.data.toList.length = s.size := by simp
      cases e : s.data.toList with
      | nil => simp
      | cons x l => rw [e] at hl; simp at hl; omega
    subst h2
    go_enter Try.func13, Try.ntmps13
    go_wp2
    go_ret
    exact ⟨rfl, rfl⟩

set_option maxHeartbeats 1000000 in
theorem hasByte (s : ByteArray) (c : UInt8) (cn : Int) (w : World) (b : Bool) (hc : Hid (cn = (c.toNat : Int))) (hb : Hid (decide (c ∈ s.data.toList) = b)) (hs : s.size ≤ 9223372036854775807) :
    Calls Try.prog 10 #[.string s, .int .u8 cn] w fun e w' => e = .returned (.bool b) ∧ w' = w := by
  go_enter Try.func10, Try.ntmps10
  go_wp2
  go_loop [5] (fun i => ∃ k : Nat, k ≤ s.size ∧ i = .int .i64 k ∧ Hid (∀ j (hj : j < s.data.toList.length), j < k → s.data.toList[j] ≠ c)) (fun i => s.size - (intOf i).toNat)
  case atStart => exact ⟨0, Nat.zero_le _, rfl, fun j hj h => by omega⟩
  case round =>
    obtain ⟨k, hk, rfl, hr⟩ := hrel
    by_cases hks : k < s.size
    · have hg : s.data.toList[k]'(by simpa using hks) = s[k] := rfl
      have HG : Hid _ := hg
      clear hg
      go_wp2
      · have hx : ((s[k].toNat : Int) == cn) = true := by assumption
        rw [byte_eq hc.out, decide_eq_true_eq] at hx
        go_ret
        refine ⟨ret_bool ?_, rfl⟩
        rw [← hb.out]
        symm
        rw [decide_eq_true_eq, ← hx, ← HG.out]
        exact List.getElem_mem _
      · have hx : ((s[k].toNat : Int) == cn) = false := by assumption
        rw [byte_eq hc.out, decide_eq_false_iff_not] at hx
        go_round
        case rel =>
          refine ⟨k + 1, by omega, by go_num, fun j hj h => ?_⟩
          by_cases e : j = k
          · subst e; rw [HG.out]; exact hx
          · exact hr.out j hj (by omega)
        case measure => simp [intOf]; omega
    · go_wp2
      go_ret
      refine ⟨ret_bool ?_, rfl⟩
      rw [← hb.out]
      symm
      rw [decide_eq_false_iff_not]
      intro hm
      obtain ⟨j, hj, e⟩ := List.getElem_of_mem hm
      exact hr.out j hj (by simp at hj; omega) e

def StrPost (l : List UInt8) (w : World) (e : Ending) (w' : World) : Prop := (∃ t : ByteArray, e = .returned (.string t) ∧ t.data.toList = l) ∧ ∃ n, w' = w.drewN n

theorem cut_list {s : ByteArray} {a b p q : List UInt8} (h : s.data.toList = a ++ 93 :: b) (ha : a = p ++ 37 :: q) : (s.extract 0 p.length ++ s.extract a.length s.size).data.toList = p ++ 93 :: b := by
  rw [ByteArray.data_append, Array.toList_append, Lib.extract_data, Lib.extract_to_end, h]
  have e1 : List.take (p.length - 0) (List.drop 0 (a ++ 93 :: b)) = p := by rw [ha]; simp
  have e2 : List.drop a.length (a ++ 93 :: b) = 93 :: b := by simp
  rw [e1, e2]

set_option maxHeartbeats 1000000 in
theorem remove12 (s : ByteArray) (w : World) (hs : s.size ≤ 4611686018427387904) :
    Calls Try.prog 12 #[.string s] w fun e w' => StrPost (rzL s.data.toList) w e w' := by
  have hsz : s.data.toList.length = s.size := by simp
  have HS : Hid _ := hsz
  clear hsz
  go_enter Try.func12, Try.ntmps12
  go_wp2_with fail
  refine (prefix13 s 91 w _ rfl).mono ?_
  rintro e w' ⟨rfl, rfl⟩
  by_cases hh : s.data.toList.head? = some 91
  · rw [decide_eq_true hh]
    have HH : Hid _ := hh
    clear hh
    go_wp2_with fail
    refine (last14 s 93 w' (by omega)).mono ?_
    rintro e w1 ⟨⟨r, rfl, hr⟩, rfl⟩
    rcases hr with ⟨rfl, hn⟩ | ⟨a, b, hl, hb, rfl⟩
    · have HN : Hid _ := rz_no_end hn
      clear hn
      go_wp2_with fail
      go_ret
      exact ⟨⟨s, rfl, HN.out.symm⟩, 0, rfl⟩
    · have hal : a.length < s.size := by rw [← HS.out, hl]; simp
      have HL : Hid (s.data.toList = a ++ 93 :: b ∧ (93 : UInt8) ∉ b) := ⟨hl, hb⟩
      have HT : Hid ((s.extract 0 a.length).data.toList = a) := by
        show _ = _
        rw [Lib.extract_data, hl]; simp
      have hts : (s.extract 0 a.length).size ≤ 9223372036854775807 := by simp; omega
      clear hl hb
      go_wp2_with fail
      refine (last14 (s.extract 0 a.length) 37 w1 hts).mono ?_
      rintro e w2 ⟨⟨r, rfl, hr⟩, rfl⟩
      rw [HT.out] at hr
      rcases hr with ⟨rfl, hn⟩ | ⟨p, q, hl2, hb2, rfl⟩
      · have HN : Hid _ := rz_no_zone HL.out.1 HL.out.2 hn
        clear hn
        go_wp2_with fail
        go_ret
        exact ⟨⟨s, rfl, HN.out.symm⟩, 0, rfl⟩
      · have hpl : p.length < a.length := by rw [hl2]; simp
        have HC : Hid _ := cut_list HL.out.1 hl2
        have HR : Hid _ := rz_cut HH.out HL.out.1 HL.out.2 hl2 hb2
        clear hl2 hb2 hts
        go_wp2_with fail
        go_quiet (fail)
        go_wp2
        go_ret
        exact ⟨⟨_, rfl, HC.out.trans HR.out.symm⟩, _, rfl⟩
  · rw [decide_eq_false hh]
    have HH : Hid _ := rz_no_head hh
    clear hh
    go_wp2_with fail
    go_ret
    exact ⟨⟨s, rfl, HH.out.symm⟩, 0, rfl⟩

set_option maxHeartbeats 1000000 in
theorem remove7 (s : ByteArray) (w : World) (hs : s.size ≤ 4611686018427387904) :
    Calls Try.prog 7 #[.string s] w fun e w' => StrPost (rzL s.data.toList) w e w' := by
  go_enter Try.func7, Try.ntmps7
  go_wp2_with fail
  refine (remove12 s w hs).mono ?_
  rintro e w' ⟨⟨t, rfl, ht⟩, n, rfl⟩
  have HT : Hid _ := ht
  clear ht
  go_wp2_with fail
  go_ret
  exact ⟨⟨t, rfl, HT.out⟩, n, rfl⟩

end Go.Proofs.Qxb6600698a
