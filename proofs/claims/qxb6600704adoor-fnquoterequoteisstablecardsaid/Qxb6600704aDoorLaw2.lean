import Derived.Test.Qxb6600704aDoorLaw1
import Derived.Test.Qxb6600704aDoorUnq
namespace Go.Proofs.Qxb6600704aDoor
open Go.RowKit Plain

set_option maxHeartbeats 1000000 in
theorem bytes12 (s : ByteArray) (w : World) (h0 : s.size ≤ 9223372036854775807) :
    Calls Tryd.prog 12 #[.string s] w fun e w' => BytesPost s w e w' := by
  go_enter Tryd.func12, Tryd.ntmps12
  go_wp2
  all_goals
    go_ret
    first
    | exact ⟨⟨false, rfl, by simp⟩, rfl⟩
    | exact ⟨⟨true, rfl, by intro; omega⟩, rfl⟩

theorem quoteL_J (l : List UInt8) : quoteL (J l) = quoteL l := by
  unfold quoteL
  rw [J_J]

theorem SP_step {q : ByteArray} {k : Nat} (hk : k < q.size) (h : SP (q.data.toList.drop k)) : (q[k].toNat ≠ 32 → Lib.headSpace (q.data.toList.drop k) = 0) ∧ (q[k].toNat = 32 → ∀ h2 : k + 1 < q.size, q[k + 1].toNat ≠ 32) ∧ SP (q.data.toList.drop (k + 1)) := by
  rw [drop_at q k hk] at h ⊢
  obtain ⟨h1, h2, h3⟩ := h
  refine ⟨fun hn => h1 (fun e => hn (by rw [e]; rfl)), fun he hk2 hn => ?_, h3⟩
  refine h2 (UInt8.toNat_inj.1 (by rw [he]; rfl)) ?_
  rw [drop_at q (k + 1) hk2]
  simp only [List.head?_cons, Option.some.injEq]
  exact UInt8.toNat_inj.1 (by rw [hn]; rfl)

/-- The second part: from the quoted text on. -/
def QFacts (l : List UInt8) (q : ByteArray) (n : Nat) : Prop :=
  q.size = n + 2 ∧ n ≤ 4194304 ∧ (∃ h1 : 1 < q.size, q[1].toNat ≠ 32) ∧ (∃ h2 : n < q.size, q[n].toNat ≠ 32) ∧ SP q.data.toList ∧ q.data.toList = 34 :: (escL (J l) ++ [34])

theorem q_facts (l : List UInt8) (q : ByteArray) (hl : l.length ≤ 1048576) (hq : ⟨(quoteL l).toArray⟩ = q) : ∃ n, QFacts l q n := by
  have hd : q.data.toList = quoteL l := by rw [← hq]
  obtain ⟨pre, y, e, hy, hlen, hne, hh⟩ := quote_ends l
  have hsz : q.size = pre.length + 2 := by rw [← len_byte, hd, e]; simp
  have hb := quoteL_len l
  have hlq : (quoteL l).length = q.size := by rw [← hd, len_byte]
  have h1 : 1 < q.size := by omega
  have h2 : pre.length < q.size := by omega
  refine ⟨pre.length, hsz, by omega, ⟨h1, ?_⟩, ⟨h2, ?_⟩, by rw [hd]; exact SP_quote l, hd⟩
  · intro hn
    apply hh
    rw [← hd, drop_at q 1 h1]
    simp only [List.head?_cons, Option.some.injEq]
    exact UInt8.toNat_inj.1 (by rw [hn]; rfl)
  · intro hn
    apply hy
    have h3 := drop_at q pre.length h2
    rw [hd, e, List.append_assoc, List.drop_left] at h3
    have : y = q[pre.length] := by simpa using (List.cons.inj h3).1
    rw [this]
    exact UInt8.toNat_inj.1 (by rw [hn]; rfl)

set_option maxHeartbeats 4000000 in
set_option maxRecDepth 100000 in
theorem law4 (s : ByteArray) (w : World) (h0 : s.size ≤ 9223372036854775807) (HT : Hid (Tabs w)) :
    Calls Tryd.prog 4 #[.string s] w fun e w' => e = .returned (.bool true) ∧ Below w.heap.size w w' := by
  obtain ⟨q, hq⟩ : ∃ q : ByteArray, ⟨(quoteL s.data.toList).toArray⟩ = q := ⟨_, rfl⟩
  have HQ : Hid _ := hq
  clear hq
  go_enter Tryd.func4, Tryd.ntmps4
  go_wp2_with (go_at_call 12; refine (bytes12 s w h0).mono ?_)
  rintro e w' ⟨⟨b, rfl, hb⟩, rfl⟩
  cases b with
  | false =>
    go_wp2
    go_ret
    exact ⟨rfl, Below.refl _ _⟩
  | true =>
    have hs := hb rfl
    clear hb
    obtain ⟨n, hn⟩ := q_facts s.data.toList q (by rw [len_byte]; exact hs) HQ.out
    have hqs : q.size = n + 2 := hn.1
    have hnb : n ≤ 4194304 := hn.2.1
    obtain ⟨h1, hb1⟩ := hn.2.2.1
    obtain ⟨h2, hb2⟩ := hn.2.2.2.1
    have HSP : Hid (SP (q.data.toList.drop 0)) := hn.2.2.2.2.1
    have HD : Hid (q.data.toList = 34 :: (escL (J s.data.toList) ++ [34])) := hn.2.2.2.2.2
    obtain ⟨u, hu⟩ : ∃ u : ByteArray, ⟨(J s.data.toList).toArray⟩ = u := ⟨_, rfl⟩
    have HU : Hid _ := hu
    have HU2 : Hid (⟨(quoteL u.data.toList).toArray⟩ = q) := by
      show _ = _
      rw [← hu]
      show (⟨(quoteL (J s.data.toList)).toArray⟩ : ByteArray) = q
      rw [quoteL_J]
      exact HQ.out
    have HUS : Hid (u.size ≤ 4194304) := by
      have := T_len (s.data.toList.length + 1) false false s.data.toList
      have h3 : u.size = (J s.data.toList).length := by rw [← len_byte, ← hu]
      show _ ≤ _
      rw [h3]
      unfold J
      have h4 := len_byte s
      omega
    clear hn hu
    obtain ⟨c1, hc1⟩ : ∃ c, q[1].toNat = c := ⟨_, rfl⟩
    obtain ⟨c2, hc2⟩ : ∃ c, q[n].toNat = c := ⟨_, rfl⟩
    have hz1 : ((c1 : Int) == 32) = false := by rw [beq_eq_false_iff_ne]; omega
    have hz2 : ((c2 : Int) == 32) = false := by rw [beq_eq_false_iff_ne]; omega
    have hsub : (n : Int) + 2 - 2 = n := by omega
    clear hb1 hb2
    go_wp2_with (go_at_call 10; refine (zz10 s w' (by omega) HT q HQ).mono ?_)
    rintro e w1 ⟨rfl, HB1⟩
    go_wp2
    go_loop [4] (fun i => ∃ k : Nat, k ≤ n + 2 ∧ i = .int .i64 k ∧ Hid (SP (q.data.toList.drop k))) (fun i => n + 2 - (intOf i).toNat)
    case atStart => exact ⟨0, by omega, rfl, HSP⟩
    case round =>
      obtain ⟨k, hk, rfl, HK⟩ := hrel
      by_cases hkn : k < n + 2
      · have hkq : k < q.size := by omega
        have hstep := SP_step hkq HK.out
        have HN : Hid (SP (q.data.toList.drop (k + 1))) := hstep.2.2
        by_cases hc : q[k].toNat = 32
        · have hnext := hstep.2.1 hc
          clear hstep
          by_cases hk2 : k + 1 < n + 2
          · have hk2q : k + 1 < q.size := by omega
            have hne := hnext hk2q
            obtain ⟨d, hd⟩ : ∃ d, q[k + 1].toNat = d := ⟨_, rfl⟩
            rw [hd] at hne
            have hzd : ((d : Int) == 32) = false := by rw [beq_eq_false_iff_ne]; omega
            clear hnext hne
            go_wp2
            go_round
            case rel => exact ⟨k + 1, by omega, by go_num, HN⟩
            case measure => simp [intOf]; omega
          · clear hnext
            go_wp2
            go_round
            case rel => exact ⟨k + 1, by omega, by go_num, HN⟩
            case measure => simp [intOf]; omega
        · have HZ : Hid (Lib.headSpace (q.data.toList.drop k) = 0) := hstep.1 hc
          clear hstep
          obtain ⟨c, hcc⟩ : ∃ c, q[k].toNat = c := ⟨_, rfl⟩
          rw [hcc] at hc
          have hzc : ((c : Int) == 32) = false := by rw [beq_eq_false_iff_ne]; omega
          have hzn : ((c : Int) != 32) = true := by rw [bne_iff_ne]; omega
          clear hc
          go_wp2_with (go_at_call 13; refine (ws13 q k _ (by omega) hkq 0 HZ).mono ?_; rintro e w' ⟨rfl, rfl⟩)
          go_round
          case rel => exact ⟨k + 1, by omega, by go_num, HN⟩
          case measure => simp [intOf]; omega
      · obtain rfl : k = n + 2 := by omega
        have hun := fun w2 => unq14 q (J s.data.toList) w2 (n + 1) (by omega) (by omega) (by omega) HD
        rw [HU.out] at hun
        have HUN : Hid _ := hun
        clear hun
        go_wp2_with (go_at_call 14; refine (HUN.out w1).mono ?_)
        rintro e w2 rfl HB2
        have HB : Hid (Below w'.heap.size w' w2) := HB1.out.trans (HB2.out.mono HB1.out.size)
        have HT2 : Hid (Tabs w2) := HT.out.below HB.out
        go_wp2_with (go_at_call 10; refine (zz10 u w2 HUS.out HT2 q HU2).mono ?_)
        rintro e w3 ⟨rfl, HB3⟩
        have HF : Hid (Below w'.heap.size w' w3) := HB.out.trans (HB3.out.mono HB.out.size)
        go_wp2
        go_ret
        exact ⟨by simp, HF.out⟩
end Go.Proofs.Qxb6600704aDoor
