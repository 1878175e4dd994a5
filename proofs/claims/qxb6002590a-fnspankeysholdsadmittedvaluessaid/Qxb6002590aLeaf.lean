import Derived.Test.Qxb6002590aRows
import Derived.Test.Qxb6002590aPlain
import Derived.WalkKit
import Derived.WalkSpells
import Derived.WalkLawsBesides
import Derived.RegionTactic
import Derived.Deep.QuietTactic
import Derived.BigQuiet
namespace Go.Proofs.Qxb6002590a
open Go.RowKit Plain

/-- The slice's first l.length cells hold the bytes l. -/
def View (w : World) (ad : Option Addr) (l : List Int) : Prop :=
  ∀ j (h : j < l.length), ∃ b off, ad = some ⟨b, off, none⟩ ∧ w.cell? ⟨b, off + j, none⟩ = some (.int .u8 l[j])

theorem ret_int {k : IntKind} {a b : Int} (h : a = b) : Ending.returned (.int k a) = .returned (.int k b) := by rw [h]
theorem ret_bool {a b : Bool} (h : a = b) : Ending.returned (.bool a) = .returned (.bool b) := by rw [h]

set_option maxHeartbeats 400000 in
theorem allFF_any (ad : Option Addr) (c : Nat) (l : List Int) (w : World) (hv : View w ad l) (hn : l.length ≤ 9223372036854775807) :
    Calls Try.prog 25 #[.slice ad l.length c] w fun e w' => e = .returned (.bool (ffL l)) ∧ w' = w := by
  have HV : Hid (View w ad l) := hv
  clear hv
  go_enter Try.func25, Try.ntmps25
  go_wp2
  go_loop [3] (fun i => ∃ k : Nat, k ≤ l.length ∧ i = .int .i64 k ∧ ffL l = ffL (l.drop k)) (fun i => l.length - (intOf i).toNat)
  case atStart => exact ⟨0, Nat.zero_le _, rfl, rfl⟩
  case round =>
    obtain ⟨k, hk, rfl, hr⟩ := hrel
    have HR : Hid (ffL l = ffL (l.drop k)) := hr
    clear hr
    by_cases hlt : k < l.length
    · obtain ⟨b, off, rfl, hc⟩ := HV.out k hlt
      have hd := ffL_drop l k hlt
      have HD : Hid (ffL (l.drop k) = ((l[k] == 255) && ffL (l.drop (k + 1)))) := hd
      clear hd
      obtain ⟨x, hx⟩ : ∃ x, l[k] = x := ⟨_, rfl⟩
      rw [hx] at hc HD
      clear hx
      go_wp2
      · have hx : (x != 255) = true := by assumption
        go_ret
        refine ⟨ret_bool ?_, rfl⟩
        rw [HR.out, HD.out]; simp at hx; simp [hx]
      · go_round
        case rel => 
          refine ⟨k + 1, by omega, by go_num, ?_⟩
          rw [HR.out, HD.out]; simp_all
        case measure => simp [intOf]; omega
    · go_wp2
      go_ret
      refine ⟨ret_bool ?_, rfl⟩
      rw [HR.out, ffL_end _ _ (by omega)]


set_option maxHeartbeats 1000000 in
theorem hasPrefix_any (ad : Option Addr) (c : Nat) (k : List Int) (ad2 : Option Addr) (c2 : Nat) (p : List Int) (w : World) (hv : View w ad k) (hv2 : View w ad2 p) (hn : k.length ≤ 9223372036854775807) :
    Calls Try.prog 27 #[.slice ad k.length c, .slice ad2 p.length c2] w fun e w' => e = .returned (.bool (preL p k)) ∧ ∃ n, w' = w.drewN n := by
  have HV : Hid (View w ad k) := hv
  have HV2 : Hid (View w ad2 p) := hv2
  clear hv hv2
  by_cases hlen : k.length < p.length
  · have hp := preL_long p k hlen
    go_enter Try.func27, Try.ntmps27
    go_wp2
    go_ret
    exact ⟨ret_bool hp.symm, 0, rfl⟩
  go_enter Try.func27, Try.ntmps27
  go_wp2
  go_loopw [5] (fun i wr => ∃ j : Nat, j ≤ p.length ∧ i = .int .i64 j ∧ preL p k = preL (p.drop j) (k.drop j) ∧ ∃ n, wr = w.drewN n) (fun i _ => p.length - (intOf i).toNat)
  case atStart => exact ⟨0, Nat.zero_le _, rfl, rfl, 0, rfl⟩
  case round =>
    obtain ⟨j, hj, rfl, hr, n, rfl⟩ := hrel
    have HR : Hid (preL p k = preL (p.drop j) (k.drop j)) := hr
    clear hr
    by_cases hlt : j < p.length
    · obtain ⟨b, off, rfl, hc⟩ := HV.out j (by omega)
      obtain ⟨b2, off2, rfl, hc2⟩ := HV2.out j hlt
      have hd := preL_drop p k j hlt (by omega)
      have HD : Hid (preL (p.drop j) (k.drop j) = ((k[j] == p[j]) && preL (p.drop (j + 1)) (k.drop (j + 1)))) := hd
      clear hd
      obtain ⟨x, hx⟩ : ∃ x, k[j] = x := ⟨_, rfl⟩
      obtain ⟨y, hy⟩ : ∃ y, p[j] = y := ⟨_, rfl⟩
      rw [hx] at hc HD
      rw [hy] at hc2 HD
      clear hx hy
      have hjk : j < k.length := by omega
      go_wp2
      go_quiet (fail)
      go_wp2
      · have hx : (x != y) = true := by assumption
        go_ret
        refine ⟨ret_bool ?_, ?_⟩
        · rw [HR.out, HD.out]; simp at hx; simp [hx]
        · exact ⟨_, World.drewN_drewN _ _ _⟩
      · go_roundw
        case rel =>
          refine ⟨j + 1, by omega, by go_num, ?_, ?_⟩
          · rw [HR.out, HD.out]; simp_all
          · exact ⟨_, rfl⟩
        case measure => simp [intOf]; omega
    · go_wp2
      go_ret
      refine ⟨ret_bool ?_, n, rfl⟩
      rw [HR.out, preL_end _ _ _ (by omega)]


set_option maxHeartbeats 2000000 in
theorem cmp_any (ad : Option Addr) (c : Nat) (a : List Int) (ad2 : Option Addr) (c2 : Nat) (b : List Int) (w : World) (hv : View w ad a) (hv2 : View w ad2 b) (hn : a.length ≤ 9223372036854775807) :
    Calls Try.prog 26 #[.slice ad a.length c, .slice ad2 b.length c2] w fun e w' => e = .returned (.int .i64 (cmpL a b)) ∧ ∃ n, w' = w.drewN n := by
  have HV : Hid (View w ad a) := hv
  have HV2 : Hid (View w ad2 b) := hv2
  clear hv hv2
  by_cases hm : b.length < a.length
  all_goals
    go_enter Try.func26, Try.ntmps26
    go_wp2
    go_loopw [6] (fun i wr => ∃ j : Nat, j ≤ a.length ∧ j ≤ b.length ∧ i = .int .i64 j ∧ cmpL a b = cmpL (a.drop j) (b.drop j) ∧ ∃ n, wr = w.drewN n) (fun i _ => a.length - (intOf i).toNat)
    case atStart => exact ⟨0, Nat.zero_le _, Nat.zero_le _, rfl, rfl, 0, rfl⟩
    case round =>
      obtain ⟨j, hja, hjb, rfl, hr, n, rfl⟩ := hrel
      have HR : Hid (cmpL a b = cmpL (a.drop j) (b.drop j)) := hr
      clear hr
      by_cases hlt : j < a.length ∧ j < b.length
      · obtain ⟨hla, hlb⟩ := hlt
        obtain ⟨g, off, rfl, hc⟩ := HV.out j hla
        obtain ⟨g2, off2, rfl, hc2⟩ := HV2.out j hlb
        have hd := cmpL_drop a b j hla hlb
        have hd1 := cmpL_lt a b j hla hlb
        have hd2 := cmpL_gt a b j hla hlb
        obtain ⟨x, hx⟩ : ∃ x, a[j] = x := ⟨_, rfl⟩
        obtain ⟨y, hy⟩ : ∃ y, b[j] = y := ⟨_, rfl⟩
        rw [hx] at hc hd hd1 hd2
        rw [hy] at hc2 hd hd1 hd2
        clear hx hy
        have HD : Hid (x = y → cmpL (a.drop j) (b.drop j) = cmpL (a.drop (j + 1)) (b.drop (j + 1))) := hd
        have HD1 : Hid (x < y → cmpL (a.drop j) (b.drop j) = -1) := hd1
        have HD2 : Hid (y < x → cmpL (a.drop j) (b.drop j) = 1) := hd2
        clear hd hd1 hd2
        rcases Int.lt_trichotomy x y with h | h | h
        · go_wp2
          go_quiet (fail)
          go_wp2
          go_ret
          exact ⟨ret_int (by rw [HR.out, HD1.out h]), _, World.drewN_drewN _ _ _⟩
        · subst h
          go_wp2
          go_quiet (fail)
          go_wp2
          go_quiet (fail)
          go_wp2
          go_roundw
          case rel => exact ⟨j + 1, by omega, by omega, by go_num, by rw [HR.out]; exact HD.out trivial, _, rfl⟩
          case measure => simp [intOf]; omega
        · go_wp2
          go_quiet (fail)
          go_wp2
          go_quiet (fail)
          go_wp2
          go_ret
          exact ⟨ret_int (by rw [HR.out, HD2.out h]), _, by simp only [World.drewN_drewN]; rfl⟩
      · have he := cmpL_end a b j (by omega) hja hjb
        have HE : Hid (cmpL (a.drop j) (b.drop j) = if a.length < b.length then -1 else if b.length < a.length then 1 else 0) := he
        clear he
        by_cases h : a.length < b.length
        · go_wp2
          all_goals
            go_ret
            exact ⟨ret_int (by rw [HR.out, HE.out, if_pos h]), n, rfl⟩
        by_cases h2 : b.length < a.length
        · go_wp2
          all_goals
            go_ret
            exact ⟨ret_int (by rw [HR.out, HE.out, if_neg h, if_pos h2]), n, rfl⟩
        · go_wp2
          all_goals
            go_ret
            exact ⟨ret_int (by rw [HR.out, HE.out, if_neg h, if_neg h2]), n, rfl⟩

end Go.Proofs.Qxb6002590a
