import Derived.Test.Qxb6002590aSpan
import Derived.Test.Qxb6002590aPlain2
namespace Go.Proofs.Qxb6002590a
open Go.RowKit Plain

def aboveB (o : Option (List Int)) (k : List Int) : Bool := match o with | none => true | some l => decide (0 ≤ cmpL k l)
def belowB (o : Option (List Int)) (k : List Int) : Bool := match o with | none => true | some l => decide (cmpL k l < 0)

set_option maxHeartbeats 1000000 in
theorem above_any (p2 : Value) (q1 : Option Addr) (o : Option (List Int)) (ak : Option Addr) (ck : Nat) (k : List Int) (w : World) (hb : BoundIs w (.pointer q1) false o) (hk : View w ak k) (hn : k.length ≤ 9223372036854775807) :
    Calls Try.prog 28 #[.agg #[.pointer q1, p2, .bool false, .int .i64 0], .slice ak k.length ck] w fun e w' => e = .returned (.bool (aboveB o k)) ∧ Below w.heap.size w w' := by
  have HK : Hid (View w ak k) := hk
  clear hk
  have hb0 : Below w.heap.size w (w.alloc (.cells #[.pointer q1, p2, .bool false, .int .i64 0] 27)) := (Below.refl _ _).alloc (Nat.le_refl _) _
  cases o with
  | none =>
    obtain rfl : q1 = none := by simpa [BoundIs] using hb
    have HB0 : Hid _ := hb0
    clear hb hb0
    go_enter Try.func28, Try.ntmps28
    go_wp2
    go_ret
    exact ⟨rfl, HB0.out⟩
  | some l =>
    obtain ⟨g, ad, c, e, h0, h1, hv⟩ := hb
    obtain rfl : q1 = some ⟨g, 0, none⟩ := by simpa using e
    have h0' := cell_later hb0 h0
    have h1' := cell_later hb0 h1
    have HV : Hid (View w ad l ∧ Below w.heap.size w (w.alloc (.cells #[.pointer (some ⟨g, 0, none⟩), p2, .bool false, .int .i64 0] 27))) := ⟨hv, hb0⟩
    have hg := block_lt_of_cell h0
    simp only at hg
    clear hv e hb0
    go_enter Try.func28, Try.ntmps28
    go_wp2_with fail
    refine (cmp_any ak ck k ad c l _ (HK.out.below HV.out.2) (HV.out.1.below HV.out.2) hn).mono ?_
    rintro e w1 ⟨rfl, n, rfl⟩
    go_wp2
    go_ret
    exact ⟨ret_bool (by simp [aboveB]), below_drewN HV.out.2 n⟩

set_option maxHeartbeats 1000000 in
theorem below_any (p1 : Value) (q1 : Option Addr) (o : Option (List Int)) (ak : Option Addr) (ck : Nat) (k : List Int) (w : World) (hb : BoundIs w (.pointer q1) true o) (hk : View w ak k) (hn : k.length ≤ 9223372036854775807) :
    Calls Try.prog 29 #[.agg #[p1, .pointer q1, .bool false, .int .i64 0], .slice ak k.length ck] w fun e w' => e = .returned (.bool (belowB o k)) ∧ Below w.heap.size w w' := by
  have HK : Hid (View w ak k) := hk
  clear hk
  have hb0 : Below w.heap.size w (w.alloc (.cells #[p1, .pointer q1, .bool false, .int .i64 0] 27)) := (Below.refl _ _).alloc (Nat.le_refl _) _
  cases o with
  | none =>
    obtain rfl : q1 = none := by simpa [BoundIs] using hb
    have HB0 : Hid _ := hb0
    clear hb hb0
    go_enter Try.func29, Try.ntmps29
    go_wp2
    go_ret
    exact ⟨rfl, HB0.out⟩
  | some l =>
    obtain ⟨g, ad, c, e, h0, h1, hv⟩ := hb
    obtain rfl : q1 = some ⟨g, 0, none⟩ := by simpa using e
    have h0' := cell_later hb0 h0
    have h1' := cell_later hb0 h1
    have HV : Hid (View w ad l ∧ Below w.heap.size w (w.alloc (.cells #[p1, .pointer (some ⟨g, 0, none⟩), .bool false, .int .i64 0] 27))) := ⟨hv, hb0⟩
    have hg := block_lt_of_cell h0
    simp only at hg
    clear hv e hb0
    go_enter Try.func29, Try.ntmps29
    go_wp2_with fail
    refine (cmp_any ak ck k ad c l _ (HK.out.below HV.out.2) (HV.out.1.below HV.out.2) hn).mono ?_
    rintro e w1 ⟨rfl, n, rfl⟩
    go_wp2
    go_ret
    exact ⟨ret_bool (by simp [belowB]), below_drewN HV.out.2 n⟩

end Go.Proofs.Qxb6002590a
