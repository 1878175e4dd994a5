import Derived.Test.Qxb6002590aMake
import Derived.Laws.AppendOwnNone
import Derived.Lib.AppendZerosOnto
import Derived.LoopN
namespace Go.Proofs.Qxb6002590a
open Go.RowKit Plain

def cells (l : List Int) : List Value := l.map (Value.int .u8)

theorem own_block_ge {w : World} {base : Nat} {v : Value} {n : Nat} {xs : List Value} (h : w.ownsRow base 5 1 v n xs) : ∀ k, v.ownBlock = some k → base ≤ k := by
  intro k hk
  rcases h.2 with ⟨rfl, _⟩ | ⟨g, cap, cur, rfl, hb, _⟩
  · simp [Value.ownBlock] at hk
  · simp [Value.ownBlock] at hk; omega

theorem owns_view {w : World} {base : Nat} {v : Value} {l : List Int} (h : w.ownsRow base 5 1 v l.length (cells l)) : ∃ ad c, v = .slice ad l.length c ∧ l.length ≤ c ∧ View w ad l := by
  have h' := h
  rcases h.2 with ⟨rfl, hn⟩ | ⟨g, cap, cur, rfl, hb, _, hnc, _⟩
  · have : l = [] := List.length_eq_zero_iff.1 hn
    subst this
    exact ⟨none, 0, rfl, by simp, view_nil _ _⟩
  · refine ⟨some ⟨g, 0, none⟩, cap, rfl, hnc, fun j hj => ⟨g, 0, rfl, ?_⟩⟩
    rw [Nat.zero_add, h'.cellAt j (by omega)]
    simp [cells, hj]

theorem view_news {w : World} {ad : Addr} {l : List Int} (h : View w (some ad) l) : ∀ j u, (cells l)[j]? = some u → w.cell? (ad.add j) = some u := by
  intro j u hu
  have hj : j < l.length := by
    have := (List.getElem?_eq_some_iff.1 hu).1
    simpa [cells] using this
  obtain ⟨b, off, e, hc⟩ := h j hj
  obtain rfl : ad = ⟨b, off, none⟩ := by simpa using e
  rw [Addr.add_lit, hc]
  simpa [cells, hj] using hu

theorem cells_one (l : List Int) : ∀ u ∈ cells l, u.oneCell' = true := by
  intro u hu
  obtain ⟨x, _, rfl⟩ := List.mem_map.1 hu
  rfl

/-- 'append(out, s...)', out nil or the call's own, s whatever (nil, empty, old, new). -/
theorem wpList_append_view {w : World} {ops : Array Oper} {rest : List Oper} {o : Oper} {a : Act} {Q : Exit → Act → World → Prop} (hgd : o.guard = none) (s x : Operand)
    (ho : o.op = .call { callee := .builtin .append, args := #[s, x], argTypes := #[22, 22] }) (base : Nat)
    (v : Value) (l1 l2 : List Int) (hs : a.eval s = v) (hown : w.ownsRow base 5 1 v l1.length (cells l1))
    (ad : Option Addr) (c : Nat) (hx : a.eval x = .slice ad l2.length c) (hnil : ad = none → l2 = [] ∧ c = 0) (hv : View w ad l2)
    (hlen : l1.length + l2.length ≤ 140737488355328) (hbase : base ≤ w.heap.size)
    (h : ∀ v' w', w'.ownsRow base 5 1 v' (l1 ++ l2).length (cells (l1 ++ l2)) → Below base w w' → wpList Try.prog ops Q rest (a.put o.dst v') w') : wpList Try.prog ops Q (o :: rest) a w := by
  obtain ⟨i0, hi, hz0, hz1, hz2⟩ := info_parts Try.info5
  cases ad with
  | none =>
    obtain ⟨rfl, rfl⟩ := hnil rfl
    refine wpList_append_own_none hgd s x 22 ho base 5 i0 1 Try.underlying22 hi v l1.length (cells l1) hs hown hx (h v w ?_ (Below.refl _ _))
    simpa using hown
  | some ad =>
    refine wpList_append_own _ hgd s x 22 ho base 5 i0 (.int .u8 0) 1 1 Try.underlying22 hi hz0 hz1 hz2 rfl (by decide) v l1.length (cells l1) hs hown ad l2.length c (cells l2) hx (by simp [cells]) (view_news hv) (cells_one _) (by unfold maxLen; omega) (by omega) hbase ?_
    intro v' w' h1 h2 _
    refine h v' w' ?_ ((Below.refl _ _).grown h2 hbase (own_block_ge hown))
    simpa [cells] using h1

theorem zeroCells_size_one (z : Value) (n : Nat) : (Builtin.zeroCells #[z] n).size = n := by
  simp [Builtin.zeroCells]

set_option maxHeartbeats 1000000 in
set_option maxRecDepth 100000 in
theorem grow_nil (n : Nat) (w : World) (hn : n ≤ 140737488355328) :
    Calls Try.prog 37 #[.slice none 0 0, .int .i64 n] w fun e w' => ∃ v, e = .returned v ∧ w'.ownsRow w.heap.size 5 1 v 0 [] ∧ Below w.heap.size w w' := by
  by_cases h0 : n = 0
  · subst h0
    go_enter Try.func37, Try.ntmps37
    go_wp2
    go_ret
    exact ⟨_, rfl, World.ownsRow_nil _ _ _ _, Below.refl _ _⟩
  obtain ⟨i0, hi, hz0, hz1, hz2⟩ := info_parts Try.info5
  have hold : (Builtin.firstCells i0.size 0 (.slice none 0 0)).run Try.prog w.drew = .ok ([] : List Value).toArray w.drew := run_firstCells_none w.drew i0.size 0 0 0
  have hrz := fun ty => Lib.run_append_grow_zeros (P := Try.prog) w 22 3 ty 5 i0 (.int .u8 0) .i64 .i64 Try.underlying22 Try.underlying3 hi hz0 none 0 0 [] hold n (by omega) (by omega) (by omega) (by omega) (by rw [hz2]; omega) (by rw [hz2]; exact growslice_fits (by omega) (by omega))
  simp only [Nat.zero_add] at hrz
  have hGn : n ≤ grownCap w n 0 5 := grownCap_ge w _ _ _
  have hG63 := grownCap_le_maxLen w n 0 5 (by unfold maxLen; omega)
  obtain ⟨G, hG⟩ : ∃ G, G = grownCap w n 0 5 := ⟨_, rfl⟩
  rw [← hG] at hrz hGn hG63
  have hG64 := hG63
  unfold maxLen at hG64
  clear hold hG
  have h1 : (0 : Int) < n := by omega
  go_enter Try.func37, Try.ntmps37
  go_wp2_with (at_builtin; refine Lib.wpList_append_run _ rfl _ _ _ _ rfl _ _ rfl rfl _ _ (hrz _) ?_)
  go_ret
  exact ⟨_, rfl, (World.ownsRow_made w _ G (Nat.le_refl _) hG63 (by simp [zeroCells_size_one]; omega)).drew, ((Below.refl _ _).alloc (Nat.le_refl _) _).drew⟩

theorem grow_nil' (m : Int) (n : Nat) (w : World) (h : m = n) (hn : n ≤ 140737488355328) :
    Calls Try.prog 37 #[.slice none 0 0, .int .i64 m] w fun e w' => ∃ v, e = .returned v ∧ w'.ownsRow w.heap.size 5 1 v 0 [] ∧ Below w.heap.size w w' := by
  subst h; exact grow_nil n w hn

set_option maxHeartbeats 1000000 in
theorem sclone_some (ad : Addr) (c : Nat) (l : List Int) (w : World) (hv : View w (some ad) l) (hn : l.length ≤ 140737488355328) :
    Calls Try.prog 36 #[.slice (some ad) l.length c] w fun e w' => ∃ v, e = .returned v ∧ v ≠ .slice none 0 0 ∧ w'.ownsRow w.heap.size 5 1 v l.length (cells l) ∧ Below w.heap.size w w' := by
  have HV : Hid (View w (some ad) l) := hv
  clear hv
  have hq := fun w => Lib.run_eql_slice_nil (P := Try.prog) w 22 5 (some ad) l.length c 0 0 Try.underlying22
  simp only [Option.isNone_some] at hq
  obtain ⟨i0, hi, hz0, hz1, hz2⟩ := info_parts Try.info5
  go_enter Try.func36, Try.ntmps36
  go_wp2_with (at_builtin; refine wpList_append_own _ rfl _ _ 22 rfl w.heap.size 5 i0 (.int .u8 0) 1 1 Try.underlying22 hi hz0 hz1 hz2 rfl (by decide) _ _ _ rfl (World.ownsRow_made w #[] 0 (Nat.le_refl _) (Nat.zero_le _) (by simp)) ad l.length c (cells l) rfl ?qc1 ?qc2 ?qc3 ?qc4 ?qc5 ?qc6 ?_)
  case qc1 => simp [cells]
  case qc2 => exact view_news (HV.out.below ((Below.refl _ _).alloc (Nat.le_refl _) _))
  case qc3 => exact cells_one _
  case qc4 => unfold maxLen; omega
  case qc5 => omega
  case qc6 => simp
  intro v' w1 hown hgrow hnil
  go_wp2
  go_ret
  refine ⟨v', rfl, ?_, by simpa using hown, ?_⟩
  · exact hnil
  · exact ((Below.refl _ w).alloc (Nat.le_refl _) _).grown hgrow (by simp) (by intro k hk; simp [Value.ownBlock] at hk; omega)

set_option maxHeartbeats 2000000 in
set_option maxRecDepth 100000 in
theorem concat_any (g c : Nat) (ad1 : Option Addr) (c1 : Nat) (a : List Int) (ad2 : Option Addr) (c2 : Nat) (b : List Int) (w : World) (h0 : w.cell? ⟨g, 0, none⟩ = some (.slice ad1 a.length c1)) (h1 : w.cell? ⟨g, 1, none⟩ = some (.slice ad2 b.length c2))
    (hv1 : View w ad1 a) (hv2 : View w ad2 b) (hn1 : ad1 = none → a = [] ∧ c1 = 0) (hn2 : ad2 = none → b = [] ∧ c2 = 0) (hl1 : a.length ≤ 1099511627776) (hl2 : b.length ≤ 1099511627776) :
    Calls Try.prog 33 #[.slice (some ⟨g, 0, none⟩) 2 c] w fun e w' => ∃ ad c', e = .returned (.slice ad (a ++ b).length c') ∧ (a ++ b).length ≤ c' ∧ View w' ad (a ++ b) ∧ Below w.heap.size w w' := by
  have HV : Hid (View w ad1 a ∧ View w ad2 b ∧ (ad1 = none → a = [] ∧ c1 = 0) ∧ (ad2 = none → b = [] ∧ c2 = 0)) := ⟨hv1, hv2, hn1, hn2⟩
  clear hv1 hv2 hn1 hn2
  go_enter Try.func33, Try.ntmps33
  go_wp2
  refine wp_loop_rounds 3 ?_
  rw [rounds_succ]
  go_wp2
  rw [rounds_succ]
  go_wp2
  rw [rounds_succ]
  go_wp2_with fail
  refine (grow_nil' _ (a.length + b.length) w (by omega) (by omega)).mono ?_
  rintro e w1 ⟨v, rfl, hown, hb⟩
  have hgb : g < w.heap.size := block_lt_of_cell h1
  have h0' := cell_later hb h0
  have h1' := cell_later hb h1
  have X : Hid (w1.ownsRow w.heap.size 5 1 v ([] : List Int).length (cells []) ∧ Below w.heap.size w w1) := ⟨hown, hb⟩
  clear hown hb h0 h1
  go_wp2
  refine wp_loop_rounds 3 ?_
  rw [rounds_succ]
  go_wp2_with (at_builtin; refine wpList_append_view rfl _ _ rfl w.heap.size v [] a rfl X.out.1 ad1 c1 rfl HV.out.2.2.1 (HV.out.1.below X.out.2) ?_ X.out.2.size ?_)
  · simp; omega
  intro v2 w2 hown2 hb2
  have h1'' := (hb2.cell hgb).trans h1'
  have X2 : Hid (w2.ownsRow w.heap.size 5 1 v2 a.length (cells a) ∧ Below w.heap.size w w2) := ⟨hown2, X.out.2.trans hb2⟩
  clear hown2 hb2 h0' h1'
  go_wp2
  rw [rounds_succ]
  go_wp2_with (at_builtin; refine wpList_append_view rfl _ _ rfl w.heap.size v2 a b rfl X2.out.1 ad2 c2 rfl HV.out.2.2.2 (HV.out.2.1.below X2.out.2) ?_ X2.out.2.size ?_)
  · omega
  intro v3 w3 hown3 hb3
  have X3 : Hid (w3.ownsRow w.heap.size 5 1 v3 (a ++ b).length (cells (a ++ b)) ∧ Below w.heap.size w w3) := ⟨by rw [List.length_append]; exact hown3, X2.out.2.trans hb3⟩
  clear hown3 hb3 h1''
  go_wp2
  rw [rounds_succ]
  go_wp2
  go_ret
  obtain ⟨ad, c', rfl, hlc, hvw⟩ := owns_view X3.out.1
  exact ⟨ad, c', rfl, hlc, hvw, X3.out.2⟩

end Go.Proofs.Qxb6002590a
