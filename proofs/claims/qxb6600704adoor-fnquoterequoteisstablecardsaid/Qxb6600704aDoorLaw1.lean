import Derived.Test.Qxb6600704aDoorMq
import Derived.Test.Qxb6600704aDoorQuote
namespace Go.Proofs.Qxb6600704aDoor
open Go.RowKit Plain

def BytesPost (s : ByteArray) (w : World) (e : Ending) (w' : World) : Prop := (∃ b, e = .returned (.bool b) ∧ (b = true → s.size ≤ 1048576)) ∧ w' = w

set_option maxHeartbeats 1000000 in
theorem bytes9 (s : ByteArray) (w : World) (h0 : s.size ≤ 9223372036854775807) :
    Calls Tryd.prog 9 #[.string s] w fun e w' => BytesPost s w e w' := by
  go_enter Tryd.func9, Tryd.ntmps9
  go_wp2
  all_goals
    go_ret
    first
    | exact ⟨⟨false, rfl, by simp⟩, rfl⟩
    | exact ⟨⟨true, rfl, by intro; omega⟩, rfl⟩

set_option maxHeartbeats 1000000 in
theorem zz10 (s : ByteArray) (w : World) (hs : s.size ≤ 4194304) (HT : Hid (Tabs w)) (q : ByteArray) (hq : Hid (⟨(quoteL s.data.toList).toArray⟩ = q)) :
    Calls Tryd.prog 10 #[.string s] w fun e w' => e = .returned (.string q) ∧ Hid (Below w.heap.size w w') := by
  have hc := quote32 s w hs HT
  rw [hq.out] at hc
  go_enter Tryd.func10, Tryd.ntmps10
  go_wp2_with (go_at_call 32; refine hc.mono ?_; rintro e w' ⟨rfl, HB⟩)
  go_ret
  exact ⟨rfl, HB⟩

set_option maxHeartbeats 2000000 in
theorem law3 (s : ByteArray) (w : World) (h0 : s.size ≤ 9223372036854775807) (HT : Hid (Tabs w)) :
    Calls Tryd.prog 3 #[.string s] w fun e w' => e = .returned (.bool true) ∧ Below w.heap.size w w' := by
  obtain ⟨q, hq⟩ : ∃ q : ByteArray, ⟨(quoteL s.data.toList).toArray⟩ = q := ⟨_, rfl⟩
  have HQ : Hid _ := hq
  clear hq
  go_enter Tryd.func3, Tryd.ntmps3
  go_wp2_with (go_at_call 9; refine (bytes9 s w h0).mono ?_)
  rintro e w' ⟨⟨b, rfl, hb⟩, rfl⟩
  cases b with
  | false =>
    go_wp2
    go_ret
    exact ⟨rfl, Below.refl _ _⟩
  | true =>
    have hs := hb rfl
    clear hb
    have hm := fun w1 => mq11 s w1 hs
    rw [HQ.out] at hm
    have HM : Hid _ := hm
    clear hm
    go_wp2_with (go_at_call 10; refine (zz10 s w' (by omega) HT q HQ).mono ?_)
    rintro e w1 ⟨rfl, HB1⟩
    go_wp2_with (go_at_call 11; refine (HM.out w1).mono ?_)
    rintro e w2 ⟨rfl, HB2⟩
    have HB : Hid (Below w'.heap.size w' w2) := HB1.out.trans (HB2.out.mono HB1.out.size)
    go_wp2
    go_ret
    exact ⟨by simp, HB.out⟩
end Go.Proofs.Qxb6600704aDoor
