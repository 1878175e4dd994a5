import Derived.Test.Qxb6600698aLit
namespace Go.Proofs.Qxb6600698a
open Go.RowKit Plain

theorem rz_same {l : List UInt8} (h : l.head? ≠ some 91 ∨ (37 : UInt8) ∉ l ∨ (93 : UInt8) ∉ l) : rzL l = l := by
  rcases h with h | h | h
  · exact rz_no_head h
  · unfold rzL
    split
    · split
      · rfl
      · rename_i a b he
        have hs : splitLast 37 a = none := by
          apply splitLast_none
          intro hm
          apply h
          by_cases h93 : (93 : UInt8) ∈ l
          · obtain ⟨c, d, hcd, hd⟩ : ∃ c d, l = c ++ 93 :: d ∧ (93 : UInt8) ∉ d := by
              have : ∀ l : List UInt8, (93 : UInt8) ∈ l → ∃ c d, l = c ++ 93 :: d ∧ (93 : UInt8) ∉ d := by
                intro l
                induction l with
                | nil => intro h; simp at h
                | cons x l ih =>
                  intro hx
                  by_cases hl : (93 : UInt8) ∈ l
                  · obtain ⟨c, d, e, hd⟩ := ih hl
                    exact ⟨x :: c, d, by rw [e]; rfl, hd⟩
                  · have : x = 93 := by
                      rcases List.mem_cons.1 hx with h | h
                      · exact h.symm
                      · exact absurd h hl
                    exact ⟨[], l, by rw [this]; rfl, hl⟩
              exact this l h93
            rw [hcd, splitLast_some _ _ _ hd] at he
            simp only [Option.some.injEq, Prod.mk.injEq] at he
            rw [hcd, he.1]
            exact List.mem_append_left _ hm
          · rw [splitLast_none _ _ h93] at he; simp at he
        rw [hs]
    · rfl
  · exact rz_no_end h

theorem split_ex (c : UInt8) : ∀ l : List UInt8, c ∈ l → ∃ a b, l = a ++ c :: b ∧ c ∉ b := by
  intro l
  induction l with
  | nil => intro h; simp at h
  | cons x l ih =>
    intro hx
    by_cases hl : c ∈ l
    · obtain ⟨a, b, e, hd⟩ := ih hl
      exact ⟨x :: a, b, by rw [e]; rfl, hd⟩
    · have : x = c := by
        rcases List.mem_cons.1 hx with h | h
        · exact h.symm
        · exact absurd h hl
      exact ⟨[], l, by rw [this]; rfl, hl⟩

theorem rz_shape {l : List UInt8} (hh : l.head? = some 91) (h93 : (93 : UInt8) ∈ l) : (rzL l).head? = some 91 ∧ (rzL l).getLast? = l.getLast? ∧ (rzL l).length ≤ l.length ∧ (93 : UInt8) ∈ rzL l := by
  obtain ⟨a, b, hl, hb⟩ := split_ex 93 l h93
  by_cases h37 : (37 : UInt8) ∈ a
  · obtain ⟨p, q, ha, hq⟩ := split_ex 37 a h37
    rw [rz_cut hh hl hb ha hq]
    refine ⟨?_, ?_, ?_, ?_⟩
    · cases p with
      | nil => rw [hl, ha] at hh; simp at hh
      | cons x p => rw [hl, ha] at hh; simpa using hh
    · rw [hl]; simp [List.getLast?_append, List.getLast?_cons]
    · rw [hl, ha]; simp; omega
    · simp
  · rw [rz_no_zone hl hb h37]
    exact ⟨hh, rfl, Nat.le_refl _, h93⟩

theorem list_size (s : ByteArray) : s.data.toList.length = s.size := by simp

theorem first_byte {s : ByteArray} {c : UInt8} (h : s.data.toList.head? = some c) : ∃ h0 : 0 < s.size, s[0] = c := by
  have hl := list_size s
  cases e : s.data.toList with
  | nil => rw [e] at h; simp at h
  | cons x l =>
    rw [e] at h hl
    have h0 : 0 < s.size := by simp at hl; omega
    refine ⟨h0, ?_⟩
    have : s[0] = s.data.toList[0]'(by rw [e]; simp) := rfl
    rw [this]
    simp only [e]
    simpa using h

theorem last_byte {s : ByteArray} (h0 : 0 < s.size) : s.data.toList.getLast? = some (s[s.size - 1]'(by omega)) := by
  have hl := list_size s
  rw [List.getLast?_eq_getElem?, List.getElem?_eq_getElem (by rw [hl]; omega)]
  congr 1


set_option maxHeartbeats 1000000 in
theorem bytes11 (s : ByteArray) (w : World) (h0 : s.size ≤ 9223372036854775807) :
    Calls Try.prog 11 #[.string s] w fun e w' => (∃ b, e = .returned (.bool b) ∧ (b = true → s.size ≤ 1048576)) ∧ w' = w := by
  go_enter Try.func11, Try.ntmps11
  go_wp2
  all_goals
    go_ret
    first
    | exact ⟨⟨false, rfl, by simp⟩, rfl⟩
    | exact ⟨⟨true, rfl, by intro; omega⟩, rfl⟩

theorem eq_lists {r s : ByteArray} (h : r.data.toList = s.data.toList) : (r.toList == s.toList) = true := by
  rw [ByteArray.toList_eq, ByteArray.toList_eq, h]; simp

set_option maxHeartbeats 2000000 in
theorem others_walk (s : ByteArray) (w : World) (h0 : s.size ≤ 9223372036854775807) :
    Calls Try.prog 5 #[.string s] w fun e w' => e = .returned (.bool true) ∧ ∃ n, w' = w.drewN n := by
  go_enter Try.func5, Try.ntmps5
  go_wp2_with fail
  refine (bytes11 s w h0).mono ?_
  rintro e w' ⟨⟨b, rfl, hb⟩, rfl⟩
  cases b with
  | false =>
    clear hb
    go_wp2_with fail
    go_ret
    exact ⟨rfl, 0, rfl⟩
  | true =>
    have hsum := hb rfl
    clear hb
    go_wp2_with fail
    refine (remove7 s w' (by omega)).mono ?_
    rintro e w4 ⟨⟨r, rfl, hr⟩, n, rfl⟩
    by_cases hz : s.size = 0
    · have hl := list_size s
      rw [hz] at hl
      have hnil : s.data.toList = [] := List.length_eq_zero_iff.1 hl
      rw [rz_same (.inl (by rw [hnil]; simp))] at hr
      have HR : Hid _ := eq_lists hr
      clear hr hl hnil
      have hzz : ((s.size : Int) == 0) = true := by simp [hz]
      clear hz
      go_wp2_with fail
      go_ret
      exact ⟨ret_bool HR.out, n, rfl⟩
    have hpos : 0 < s.size := by omega
    have hzz : ((s.size : Int) == 0) = false := by simp [hz]
    clear hz
    by_cases hh : s.data.toList.head? = some 91
    · obtain ⟨_, hf⟩ := first_byte hh
      by_cases m1 : (37 : UInt8) ∈ s.data.toList
      · by_cases m2 : (93 : UInt8) ∈ s.data.toList
        · obtain ⟨g1, g2, g3, g4⟩ := rz_shape hh m2
          rw [← hr] at g1 g2 g3 g4
          obtain ⟨r0, rf⟩ := first_byte g1
          rw [last_byte r0, last_byte hpos] at g2
          simp only [Option.some.injEq] at g2
          rw [list_size, list_size] at g3
          have hf' : ((s[0].toNat : Int) != 91) = false := by rw [hf]; rfl
          have rf' : ((r[0].toNat : Int) == 91) = true := by rw [rf]; rfl
          obtain ⟨m, hm⟩ : ∃ m, r.size = m + 1 := ⟨r.size - 1, by omega⟩
          obtain ⟨k, hk⟩ : ∃ k, s.size = k + 1 := ⟨s.size - 1, by omega⟩
          have im : m < r.size := by omega
          have ik : k < s.size := by omega
          have g2' : (((r[m]'im).toNat : Int) == ((s[k]'ik).toNat : Int)) = true := by
            have e1 : r.size - 1 = m := by omega
            have e2 : s.size - 1 = k := by omega
            simp only [e1, e2] at g2
            rw [g2]; simp
          have HMK : Hid (r.size = m + 1 ∧ s.size = k + 1) := ⟨hm, hk⟩
          clear hm hk
          have rz : ((r.size : Int) == 0) = false := by rw [beq_eq_false_iff_ne]; omega
          have HH : Hid (decide ((37 : UInt8) ∈ s.data.toList) = true ∧ decide ((93 : UInt8) ∈ s.data.toList) = true ∧ decide ((93 : UInt8) ∈ r.data.toList) = true) := ⟨decide_eq_true m1, decide_eq_true m2, decide_eq_true g4⟩
          clear m1 m2 g1 g4 hh hr rf hf g2
          go_wp2_with fail
          refine (hasByte s 37 37 _ true rfl HH.out.1 h0).mono ?_
          rintro e w1 ⟨rfl, rfl⟩
          go_wp2_with fail
          refine (hasByte s 93 93 _ true rfl HH.out.2.1 h0).mono ?_
          rintro e w1 ⟨rfl, rfl⟩
          go_wp2_with fail
          have e1 : (r.size : Int) - 1 = (m : Int) := by have := HMK.out.1; omega
          have e2 : (s.size : Int) - 1 = (k : Int) := by have := HMK.out.2; omega
          have hw1 : IntKind.i64.wrap (m : Int) = (m : Int) := by rw [IntKind.wrap_i64]; omega
          have hw2 : IntKind.i64.wrap (k : Int) = (k : Int) := by rw [IntKind.wrap_i64]; omega
          have CB : Hid (∀ wx, Calls Try.prog 10 #[.string r, .int .u8 93] wx fun e w' => e = .returned (.bool true) ∧ w' = wx) := fun wx => hasByte r 93 93 wx true rfl HH.out.2.2 (by omega)
          generalize hwz : w'.drewN n = wz
          have HWZ : Hid _ := hwz
          clear hwz
          go_quiet ((go_at_call 10; exact Calls.quiet_of_same (CB.out _)))
          go_wp2
          go_ret
          exact ⟨rfl, n + nq, by rw [← HWZ.out]; exact World.drewN_drewN _ _ _⟩
        · rw [rz_same (.inr (.inr m2))] at hr
          have HR : Hid _ := eq_lists hr
          have hf' : ((s[0].toNat : Int) != 91) = false := by rw [hf]; rfl
          have HH : Hid (decide ((37 : UInt8) ∈ s.data.toList) = true ∧ decide ((93 : UInt8) ∈ s.data.toList) = false) := ⟨decide_eq_true m1, decide_eq_false m2⟩
          clear m1 m2 hh hr hf
          go_wp2_with fail
          refine (hasByte s 37 37 _ true rfl HH.out.1 h0).mono ?_
          rintro e w1 ⟨rfl, rfl⟩
          go_wp2_with fail
          refine (hasByte s 93 93 _ false rfl HH.out.2 h0).mono ?_
          rintro e w1 ⟨rfl, rfl⟩
          go_wp2_with fail
          go_ret
          exact ⟨ret_bool HR.out, n, rfl⟩
      · rw [rz_same (.inr (.inl m1))] at hr
        have HR : Hid _ := eq_lists hr
        have hf' : ((s[0].toNat : Int) != 91) = false := by rw [hf]; rfl
        have HH : Hid (decide ((37 : UInt8) ∈ s.data.toList) = false) := decide_eq_false m1
        clear m1 hh hr hf
        go_wp2_with fail
        refine (hasByte s 37 37 _ false rfl HH.out h0).mono ?_
        rintro e w1 ⟨rfl, rfl⟩
        go_wp2_with fail
        go_ret
        exact ⟨ret_bool HR.out, n, rfl⟩
    · rw [rz_same (.inl hh)] at hr
      have HR : Hid _ := eq_lists hr
      have hf' : ((s[0].toNat : Int) != 91) = true := by
        rw [bne_iff_ne]
        intro e
        apply hh
        have e2 : s[0] = 91 := UInt8.toNat_inj.1 (by show s[0].toNat = 91; omega)
        have hl := list_size s
        cases e3 : s.data.toList with
        | nil => rw [e3] at hl; simp at hl; omega
        | cons x l =>
          have : s[0] = s.data.toList[0]'(by rw [e3]; simp) := rfl
          rw [this] at e2
          simp only [e3] at e2
          simpa using e2
      clear hh hr
      go_wp2_with fail
      go_ret
      exact ⟨ret_bool HR.out, n, rfl⟩

end Go.Proofs.Qxb6600698a
