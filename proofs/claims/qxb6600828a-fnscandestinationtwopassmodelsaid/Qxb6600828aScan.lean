import Derived.Test.Qxb6600828aEsc
import Derived.Deep.CutBlock
import Derived.Deep.DeepCutAuto
namespace Go.Proofs.Qxb6600828a
open Go.RowKit Plain

def ScanPost (l : List Int) (i : Nat) (ad : Option Addr) (c : Nat) (w : World) (e : Ending) (w' : World) : Prop :=
  ((Sc l i none ∧ e = .returned (.tuple #[.slice none 0 0, .int .i64 0, .bool false])) ∨
   ∃ a b en blk off : Nat, ad = some ⟨blk, off, none⟩ ∧ Sc l i (some (a, b, en)) ∧ a ≤ b ∧ a < l.length ∧ b ≤ l.length ∧ e = .returned (.tuple #[.slice (some ⟨blk, off + a, none⟩) (b - a) (c - a), .int .i64 en, .bool true])) ∧ w' = w

theorem ret_three {a b c a' b' c' : Value} (h1 : a = a') (h2 : b = b') (h3 : c = c') : Ending.returned (.tuple #[a, b, c]) = .returned (.tuple #[a', b', c']) := by rw [h1, h2, h3]

/-- What is known of the byte at k, and whether it begins a pair. -/
structure At (l : List Int) (w : World) (b off k : Nat) (x : Int) : Prop where
  cell : w.cell? ⟨b, off + k, none⟩ = some (.int .u8 x)
  get : l.getD k 0 = x

theorem astop_not {l : List Int} {f m : Nat} {x : Int} (h : l.getD (f + m) 0 = x) (h1 : x ≠ 62) (h2 : x ≠ 60) (h3 : x ≠ 10) : astopB l f m = false := by
  unfold astopB; rw [h]; simp [h1, h2, h3]
theorem astop_mk {l : List Int} {f m : Nat} (h : mk l f m = true) : astopB l f m = false := by
  unfold astopB; rw [h]; rfl
theorem astop_yes {l : List Int} {f m : Nat} {x : Int} (h : l.getD (f + m) 0 = x) (hm : mk l f m = false) (hx : x = 62 ∨ x = 60 ∨ x = 10) : astopB l f m = true := by
  unfold astopB; rw [h, hm]
  rcases hx with rfl | rfl | rfl <;> rfl
theorem lt_snoc {p : Nat → Bool} {m : Nat} (h : ∀ t, t < m → p t = false) (hm : p m = false) : ∀ t, t < m + 1 → p t = false := by
  intro t ht
  by_cases e : t = m
  · rw [e]; exact hm
  · exact h t (by omega)

set_option maxHeartbeats 2000000 in
set_option maxRecDepth 100000 in
theorem scan_ang (b off c : Nat) (l : List Int) (i : Nat) (w : World) (hv : View w (some ⟨b, off, none⟩) l) (hn : l.length ≤ 1048576) (hlc : l.length ≤ c) (hi : i < l.length) (h60 : l.getD i 0 = 60) :
    Calls Try.prog 26 #[.slice (some ⟨b, off, none⟩) l.length c, .int .i64 i] w fun e w' => ScanPost l i (some ⟨b, off, none⟩) c w e w' := by
  have hcell : ∀ k, k < l.length → ∃ x, w.cell? ⟨b, off + k, none⟩ = some (.int .u8 x) ∧ Hid (l.getD k 0 = x) := by
    intro k hk
    obtain ⟨b', off', e, hc⟩ := hv k hk
    obtain ⟨rfl, rfl⟩ : b = b' ∧ off = off' := by simpa using e
    exact ⟨_, hc, getD_of hk⟩
  have HC : Hid (∀ k, k < l.length → ∃ x, w.cell? ⟨b, off + k, none⟩ = some (.int .u8 x) ∧ Hid (l.getD k 0 = x)) := hcell
  have HS : Hid (∀ r, Ang l (i + 1) r → Sc l i r) := fun r h => by unfold Sc; rw [if_pos ⟨hi, h60⟩]; exact h
  obtain ⟨x0, hx0, gx0⟩ := hcell i hi
  obtain rfl : x0 = 60 := by rw [← gx0.out, h60]
  clear hcell hv h60 gx0
  go_enter Try.func26, Try.ntmps26
  go_wp2
  go_loop [7] (fun j => ∃ m : Nat, i + 1 + m ≤ l.length ∧ j = .int .i64 ((i + 1 + m : Nat) : Int) ∧ Hid (mk l (i + 1) m = false) ∧ Hid (∀ t, t < m → astopB l (i + 1) t = false)) (fun j => l.length - (intOf j).toNat)
  case atStart => exact ⟨0, by omega, rfl, rfl, fun t ht => by omega⟩
  case round =>
    obtain ⟨m, hm, rfl, hmk, hst⟩ := hrel
    by_cases hlt : i + 1 + m < l.length
    · obtain ⟨x, hcx, gx⟩ := HC.out (i + 1 + m) hlt
      by_cases h92 : x = 92 ∧ i + 1 + m + 1 < l.length
      · obtain ⟨rfl, hl2⟩ := h92
        obtain ⟨y, hcy, gy⟩ := HC.out (i + 1 + m + 1) hl2
        have hpb : Hid (pairB l (i + 1 + m) = punctB y) := by
          show _ = _
          unfold pairB; rw [gx.out, gy.out]; simp [hl2]
        cases hp : punctB y with
        | true =>
          rw [hp] at hpb
          obtain ⟨k1, k2⟩ := mk_pair hmk.out hpb.out
          have X : Hid (Hid (mk l (i + 1) (m + 2) = false) ∧ Hid (∀ t, t < m + 2 → astopB l (i + 1) t = false)) := ⟨k2, lt_snoc (lt_snoc hst.out (astop_not gx.out (by decide) (by decide) (by decide))) (astop_mk k1)⟩
          have CP : Hid (∀ wx, Calls Try.prog 33 #[.int .u8 y] wx fun e w' => e = .returned (.bool true) ∧ w' = wx) := fun wx => by have := punct33 y wx; rw [hp] at this; exact this
          clear k1 k2 hp hmk hst
          go_wp2_with (go_at_call 33; refine (CP.out _).mono ?_; rintro e w' ⟨rfl, rfl⟩)
          go_round
          case rel => exact ⟨m + 2, by omega, by go_num, X.out⟩
          case measure => simp [intOf]; omega
        | false =>
          rw [hp] at hpb
          have X : Hid (Hid (mk l (i + 1) (m + 1) = false) ∧ Hid (∀ t, t < m + 1 → astopB l (i + 1) t = false)) := ⟨mk_plain hmk.out hpb.out, lt_snoc hst.out (astop_not gx.out (by decide) (by decide) (by decide))⟩
          have CP : Hid (∀ wx, Calls Try.prog 33 #[.int .u8 y] wx fun e w' => e = .returned (.bool false) ∧ w' = wx) := fun wx => by have := punct33 y wx; rw [hp] at this; exact this
          clear hp hmk hst
          go_wp2_with (go_at_call 33; refine (CP.out _).mono ?_; rintro e w' ⟨rfl, rfl⟩)
          go_round
          case rel => exact ⟨m + 1, by omega, by go_num, X.out⟩
          case measure => simp [intOf]; omega
      · have hpb : Hid (pairB l (i + 1 + m) = false) := by
          show _ = _
          unfold pairB; rw [gx.out]
          by_cases e : x = 92
          · have : ¬ (i + 1 + m + 1 < l.length) := fun h => h92 ⟨e, h⟩
            simp [this]
          · simp [e]
        have hmk1 : Hid (mk l (i + 1) (m + 1) = false) := mk_plain hmk.out hpb.out
        by_cases e92 : x = 92
        · subst e92
          have hl2 : ¬ (i + 1 + m + 1 < l.length) := fun h => h92 ⟨rfl, h⟩
          have hd : decide ((i : Int) + 1 + (m : Int) + 1 < (l.length : Int)) = false := decide_eq_false (by omega)
          have X : Hid (Hid (mk l (i + 1) (m + 1) = false) ∧ Hid (∀ t, t < m + 1 → astopB l (i + 1) t = false)) := ⟨hmk1, lt_snoc hst.out (astop_not gx.out (by decide) (by decide) (by decide))⟩
          clear h92 hmk hst hmk1
          go_wp2_with fail
          go_round
          case rel => exact ⟨m + 1, by omega, by go_num, X.out⟩
          case measure => simp [intOf]; omega
        · have d92 : (x == 92) = false := by simp [e92]
          clear h92 e92
          by_cases e62 : x = 62
          · subst e62
            have X : Hid (Ang l (i + 1) (some (i + 1, i + 1 + m, i + 1 + m + 1))) := .inr ⟨m, hlt, hst.out, astop_yes gx.out hmk.out (.inl rfl), by rw [if_pos gx.out]⟩
            clear hmk hst hmk1
            go_wp2_with fail
            go_ret3
            refine ⟨.inr ⟨i + 1, i + 1 + m, i + 1 + m + 1, b, off, rfl, HS.out _ X.out, by omega, by omega, by omega, ?_⟩, rfl⟩
            have em : i + 1 + m - (i + 1) = m := by omega
            rw [em]
            exact ret_three rfl rfl rfl
          · have d62 : (x == 62) = false := by simp [e62]
            by_cases e10 : x = 10 ∨ x = 60
            · have X : Hid (Ang l (i + 1) none) := .inr ⟨m, hlt, hst.out, astop_yes gx.out hmk.out (by omega), by rw [if_neg (by rw [gx.out]; exact e62)]⟩
              clear hmk hst hmk1 e62
              rcases e10 with rfl | rfl
              all_goals
                go_wp2_with fail
                go_ret3
                exact ⟨.inl ⟨HS.out _ X.out, rfl⟩, rfl⟩
            · have d10 : (x == 10) = false := by rw [beq_eq_false_iff_ne]; omega
              have d60 : (x == 60) = false := by rw [beq_eq_false_iff_ne]; omega
              have X : Hid (Hid (mk l (i + 1) (m + 1) = false) ∧ Hid (∀ t, t < m + 1 → astopB l (i + 1) t = false)) := ⟨hmk1, lt_snoc hst.out (astop_not gx.out (by omega) (by omega) (by omega))⟩
              clear hmk hst hmk1 e62 e10
              go_wp2_with fail
              go_round
              case rel => exact ⟨m + 1, by omega, by go_num, X.out⟩
              case measure => simp [intOf]; omega
    · have X : Hid (Ang l (i + 1) none) := .inl ⟨rfl, fun t ht => hst.out t (by omega)⟩
      clear hmk hst
      go_wp2_with fail
      go_ret3
      exact ⟨.inl ⟨HS.out _ X.out, rfl⟩, rfl⟩


theorem stop_no {l : List Int} {f m : Nat} {x : Int} (h : l.getD (f + m) 0 = x) (h1 : blankB x = false) (h2 : x ≠ 41) : stopB l f m = false := by
  unfold stopB; rw [h, h1]; simp [h2]
theorem stop_mk {l : List Int} {f m : Nat} (h : mk l f m = true) : stopB l f m = false := by
  unfold stopB; rw [h]; rfl
theorem stop_blank {l : List Int} {f m : Nat} {x : Int} (h : l.getD (f + m) 0 = x) (hm : mk l f m = false) (h1 : blankB x = true) : stopB l f m = true := by
  unfold stopB; rw [h, h1, hm]; rfl
theorem stop_shut {l : List Int} {f m : Nat} (h : l.getD (f + m) 0 = 41) (hm : mk l f m = false) (h1 : bal l f m = 0) : stopB l f m = true := by
  unfold stopB; rw [h, h1, hm]; rfl
theorem stop_deep {l : List Int} {f m : Nat} (h : l.getD (f + m) 0 = 41) (h1 : bal l f m ≠ 0) : stopB l f m = false := by
  unfold stopB; rw [h]
  have : (bal l f m == 0) = false := by simp [h1]
  rw [this]
  have : blankB 41 = false := by decide
  rw [this]; simp
theorem le_snoc {g : Nat → Int} {m : Nat} (h : ∀ t, t ≤ m → g t ≤ 32) (hm : g (m + 1) ≤ 32) : ∀ t, t ≤ m + 1 → g t ≤ 32 := by
  intro t ht
  by_cases e : t = m + 1
  · rw [e]; exact hm
  · exact h t (by omega)

/-- The bare loop's relation. -/
structure Bst (l : List Int) (i m : Nat) (d : Int) : Prop where
  len : i + m ≤ l.length
  notEsc : mk l i m = false
  st : ∀ t, t < m → stopB l i t = false
  le : ∀ t, t ≤ m → bal l i t ≤ 32
  nn : 0 ≤ d
  depth : bal l i m = d

theorem Bst.pair {l : List Int} {i m : Nat} {d : Int} (h : Bst l i m d) (hp : pairB l (i + m) = true) (hl : i + m + 1 < l.length) : Bst l i (m + 2) d := by
  obtain ⟨k1, k2⟩ := mk_pair h.notEsc hp
  have hg := (pair_byte hp).1
  have d1 : dl l i m = 0 := dl_other (by rw [hg]; decide) (by rw [hg]; decide)
  have d2 : dl l i (m + 1) = 0 := dl_mk k1
  have b1 : Plain.bal l i (m + 1) = d := by rw [Plain.bal, d1, h.depth]; omega
  have b2 : Plain.bal l i (m + 2) = d := by rw [Plain.bal, d2, b1]; omega
  have := h.le m (Nat.le_refl _)
  rw [h.depth] at this
  exact ⟨by omega, k2, lt_snoc (lt_snoc h.st (stop_no hg (by decide) (by decide))) (stop_mk k1), le_snoc (le_snoc h.le (by rw [b1]; exact this)) (by rw [b2]; exact this), h.nn, b2⟩

theorem Bst.step {l : List Int} {i m : Nat} {d d' : Int} (h : Bst l i m d) (hp : pairB l (i + m) = false) (hl : i + m < l.length) (hs : stopB l i m = false) (hd : d + dl l i m = d') (h0 : 0 ≤ d') (h32 : d' ≤ 32) : Bst l i (m + 1) d' := by
  have b1 : Plain.bal l i (m + 1) = d' := by rw [Plain.bal, h.depth]; exact hd
  exact ⟨by omega, mk_plain h.notEsc hp, lt_snoc h.st hs, le_snoc h.le (by omega), h0, b1⟩

theorem Bst.start {l : List Int} {i : Nat} (h : i ≤ l.length) : Bst l i 0 0 := by
  refine ⟨h, rfl, fun t ht => by omega, fun t ht => ?_, by omega, rfl⟩
  have e : t = 0 := by omega
  rw [e]; show (0 : Int) ≤ 32; omega

theorem Bst.fin {l : List Int} {i m : Nat} {d : Int} (h : Bst l i m d) (he : i + m = l.length ∨ stopB l i m = true) (hr : m = 0 ∨ 0 < d) : Bare l i none :=
  ⟨m, h.len, h.st, he, .inl ⟨rfl, by rcases hr with hr | hr; exact .inl hr; exact .inr (.inl (by rw [h.depth]; omega))⟩⟩
theorem Bst.good {l : List Int} {i m : Nat} (h : Bst l i m 0) (he : i + m = l.length ∨ stopB l i m = true) (hm : m ≠ 0) : Bare l i (some (i, i + m, i + m)) :=
  ⟨m, h.len, h.st, he, .inr ⟨rfl, hm, h.depth, h.le⟩⟩
theorem Bst.over {l : List Int} {i m : Nat} (h : Bst l i m 32) (hl : i + m < l.length) (hg : l.getD (i + m) 0 = 40) : Bare l i none := by
  have hs : stopB l i m = false := stop_no hg (by decide) (by decide)
  refine bare_over (m := m + 1) (by omega) (lt_snoc h.st hs) ?_
  rw [Plain.bal, h.depth, dl_open h.notEsc hg]; decide


set_option maxHeartbeats 4000000 in
set_option maxRecDepth 100000 in
theorem scan_bare (ad : Option Addr) (c : Nat) (l : List Int) (i : Nat) (w : World) (hv : View w ad l) (hn : l.length ≤ 1048576) (hlc : l.length ≤ c) (hi : i ≤ l.length) (h60 : ¬ (i < l.length ∧ l.getD i 0 = 60)) :
    Calls Try.prog 26 #[.slice ad l.length c, .int .i64 i] w fun e w' => ScanPost l i ad c w e w' := by
  have HV : Hid (View w ad l) := hv
  have HS : Hid (∀ r, Bare l i r → Sc l i r) := fun r h => by unfold Sc; rw [if_neg h60]; exact h
  clear hv
  go_enter Try.func26, Try.ntmps26
  go_upto_region 1 with (fail)
  go_cut [22] (fun v wc => v = .bool false ∧ w = wc)
  case first =>
    by_cases hin : i < l.length
    · obtain ⟨b, off, rfl, hc⟩ := HV.out i hin
      have hx : ((l[i]) == 60) = false := by
        rw [beq_eq_false_iff_ne]; intro e; exact h60 ⟨hin, by rw [getD_of hin]; exact e⟩
      generalize l[i] = x at hc hx
      clear h60
      go_wp2_with fail
      go_meet
      case rel => exact ⟨rfl, rfl⟩
    · have hd : decide ((i : Int) < (l.length : Int)) = false := decide_eq_false (by omega)
      go_wp2_with fail
      go_meet
      case rel => exact ⟨rfl, rfl⟩
  case rest =>
    obtain ⟨rfl, rfl⟩ := hcut
    clear h60
    go_wp2_with fail
    go_loop [9, 10] (fun dv j => ∃ (m : Nat) (d : Int), j = .int .i64 ((i + m : Nat) : Int) ∧ dv = .int .i64 d ∧ Hid (Bst l i m d)) (fun _ j => l.length - (intOf j).toNat)
    case atStart => exact ⟨0, 0, rfl, rfl, Bst.start hi⟩
    case round =>
      obtain ⟨m, d, rfl, rfl, HB⟩ := hrel
      have hlen := HB.out.len
      have hd0 := HB.out.nn
      have hd32 : d ≤ 32 := by have := HB.out.le m (Nat.le_refl _); rw [HB.out.depth] at this; exact this
      by_cases hlt : i + m < l.length
      · obtain ⟨b, off, rfl, hc⟩ := HV.out (i + m) hlt
        have gx : Hid (l.getD (i + m) 0 = l[i + m]) := getD_of hlt
        generalize l[i + m] = x at hc gx
        by_cases h92 : x = 92 ∧ i + m + 1 < l.length
        · obtain ⟨rfl, hl2⟩ := h92
          obtain ⟨b', off', e', hcy⟩ := HV.out (i + m + 1) hl2
          obtain ⟨rfl, rfl⟩ : b = b' ∧ off = off' := by simpa using e'
          have gy : Hid (l.getD (i + m + 1) 0 = l[i + m + 1]) := getD_of hl2
          generalize l[i + m + 1] = y at hcy gy
          clear e'
          have hpb : Hid (pairB l (i + m) = punctB y) := by
            show _ = _
            unfold pairB; rw [gx.out, gy.out]; simp [hl2]
          cases hp : punctB y with
          | true =>
            rw [hp] at hpb
            have X : Hid (Bst l i (m + 2) d) := HB.out.pair hpb.out hl2
            have CP : Hid (∀ wx, Calls Try.prog 33 #[.int .u8 y] wx fun e w' => e = .returned (.bool true) ∧ w' = wx) := fun wx => by have := punct33 y wx; rw [hp] at this; exact this
            clear hp
            go_wp2_with (go_at_call 33; refine (CP.out _).mono ?_; rintro e w' ⟨rfl, rfl⟩)
            go_round
            case rel => exact ⟨m + 2, d, by go_num, rfl, X⟩
            case measure => simp [intOf]; omega
          | false =>
            rw [hp] at hpb
            have X : Hid (Bst l i (m + 1) d) := HB.out.step hpb.out hlt (stop_no gx.out (by decide) (by decide)) (by rw [dl_other (by rw [gx.out]; decide) (by rw [gx.out]; decide)]; omega) hd0 hd32
            have CP : Hid (∀ wx, Calls Try.prog 33 #[.int .u8 y] wx fun e w' => e = .returned (.bool false) ∧ w' = wx) := fun wx => by have := punct33 y wx; rw [hp] at this; exact this
            clear hp
            go_wp2_with (go_at_call 33; refine (CP.out _).mono ?_; rintro e w' ⟨rfl, rfl⟩)
            go_round
            case rel => exact ⟨m + 1, d, by go_num, rfl, X⟩
            case measure => simp [intOf]; omega
        · have hpb : Hid (pairB l (i + m) = false) := by
            show _ = _
            unfold pairB; rw [gx.out]
            by_cases e : x = 92
            · have : ¬ (i + m + 1 < l.length) := fun h => h92 ⟨e, h⟩
              simp [this]
            · simp [e]
          by_cases e92 : x = 92
          · subst e92
            have hl2 : ¬ (i + m + 1 < l.length) := fun h => h92 ⟨rfl, h⟩
            have hd : decide ((i : Int) + (m : Int) + 1 < (l.length : Int)) = false := decide_eq_false (by omega)
            have X : Hid (Bst l i (m + 1) d) := HB.out.step hpb.out hlt (stop_no gx.out (by decide) (by decide)) (by rw [dl_other (by rw [gx.out]; decide) (by rw [gx.out]; decide)]; omega) hd0 hd32
            clear h92
            go_wp2_with fail
            go_round
            case rel => exact ⟨m + 1, d, by go_num, rfl, X⟩
            case measure => simp [intOf]; omega
          · have d92 : (x == 92) = false := by simp [e92]
            clear h92 e92
            by_cases hbl : x = 32 ∨ (9 ≤ x ∧ x ≤ 13)
            · -- a blank: the loop is left
              have HE : Hid (stopB l i m = true) := stop_blank gx.out HB.out.notEsc ((blank_iff x).2 hbl)
              rcases hbl with rfl | ⟨h9, h13⟩
              · clear d92
                by_cases hm0 : m = 0
                · have X : Hid (Bare l i none) := HB.out.fin (.inr HE.out) (.inl hm0)
                  have hm1 : m < 1 := by omega
                  clear HB hm0
                  go_wp2_with fail
                  go_ret3
                  exact ⟨.inl ⟨HS.out _ X.out, rfl⟩, rfl⟩
                have hmp : 0 < m := by omega
                by_cases hdp : 0 < d
                · have X : Hid (Bare l i none) := HB.out.fin (.inr HE.out) (.inr hdp)
                  clear HB
                  go_wp2_with fail
                  go_ret3
                  exact ⟨.inl ⟨HS.out _ X.out, rfl⟩, rfl⟩
                obtain rfl : d = 0 := by omega
                have X : Hid (Bare l i (some (i, i + m, i + m))) := HB.out.good (.inr HE.out) hm0
                clear HB
                go_wp2_with fail
                go_ret3
                refine ⟨.inr ⟨i, i + m, i + m, b, off, rfl, HS.out _ X.out, by omega, by omega, by omega, ?_⟩, rfl⟩
                have em : i + m - i = m := by omega
                rw [em]
                exact ret_three rfl rfl rfl
              · have hb1 : (x == 32) = false := by rw [beq_eq_false_iff_ne]; omega
                by_cases hm0 : m = 0
                · have X : Hid (Bare l i none) := HB.out.fin (.inr HE.out) (.inl hm0)
                  have hm1 : m < 1 := by omega
                  clear HB hm0
                  go_wp2_with fail
                  go_ret3
                  exact ⟨.inl ⟨HS.out _ X.out, rfl⟩, rfl⟩
                have hmp : 0 < m := by omega
                by_cases hdp : 0 < d
                · have X : Hid (Bare l i none) := HB.out.fin (.inr HE.out) (.inr hdp)
                  clear HB
                  go_wp2_with fail
                  go_ret3
                  exact ⟨.inl ⟨HS.out _ X.out, rfl⟩, rfl⟩
                obtain rfl : d = 0 := by omega
                have X : Hid (Bare l i (some (i, i + m, i + m))) := HB.out.good (.inr HE.out) hm0
                clear HB
                go_wp2_with fail
                go_ret3
                refine ⟨.inr ⟨i, i + m, i + m, b, off, rfl, HS.out _ X.out, by omega, by omega, by omega, ?_⟩, rfl⟩
                have em : i + m - i = m := by omega
                rw [em]
                exact ret_three rfl rfl rfl
            · have hb1 : (x == 32) = false := by rw [beq_eq_false_iff_ne]; omega
              have hbk : Hid (blankB x = false) := blank_not hbl
              by_cases e40 : x = 40
              · subst e40
                by_cases h31 : d < 32
                · have X : Hid (Bst l i (m + 1) (d + 1)) := HB.out.step hpb.out hlt (stop_no gx.out hbk.out (by decide)) (by rw [dl_open HB.out.notEsc gx.out]) (by omega) (by omega)
                  clear hbl
                  go_wp2_with fail
                  go_round
                  case rel => exact ⟨m + 1, d + 1, by go_num, rfl, X⟩
                  case measure => simp [intOf]; omega
                · obtain rfl : d = 32 := by omega
                  have X : Hid (Bare l i none) := HB.out.over hlt gx.out
                  clear hbl
                  go_wp2_with fail
                  go_ret3
                  exact ⟨.inl ⟨HS.out _ X.out, rfl⟩, rfl⟩
              · have d40 : (x == 40) = false := by simp [e40]
                by_cases e41 : x = 41
                · subst e41
                  by_cases hz : d = 0
                  · -- an unmatched ')': the loop is left
                    have HE : Hid (stopB l i m = true) := stop_shut gx.out HB.out.notEsc (by rw [HB.out.depth]; exact hz)
                    clear hbl
                    by_cases hm0 : m = 0
                    · have X : Hid (Bare l i none) := HB.out.fin (.inr HE.out) (.inl hm0)
                      have hm1 : m < 1 := by omega
                      clear HB hm0
                      go_wp2_with fail
                      go_ret3
                      exact ⟨.inl ⟨HS.out _ X.out, rfl⟩, rfl⟩
                    have hmp : 0 < m := by omega
                    by_cases hdp : 0 < d
                    · omega
                    obtain rfl : d = 0 := by omega
                    have X : Hid (Bare l i (some (i, i + m, i + m))) := HB.out.good (.inr HE.out) hm0
                    clear HB
                    go_wp2_with fail
                    go_ret3
                    refine ⟨.inr ⟨i, i + m, i + m, b, off, rfl, HS.out _ X.out, by omega, by omega, by omega, ?_⟩, rfl⟩
                    have em : i + m - i = m := by omega
                    rw [em]
                    exact ret_three rfl rfl rfl
                  · have X : Hid (Bst l i (m + 1) (d - 1)) := HB.out.step hpb.out hlt (stop_deep gx.out (by rw [HB.out.depth]; exact hz)) (by rw [dl_shut HB.out.notEsc gx.out]; omega) (by omega) (by omega)
                    have hdz : (d == 0) = false := by simp [hz]
                    clear hbl
                    go_wp2_with fail
                    go_round
                    case rel => exact ⟨m + 1, d - 1, by go_num, rfl, X⟩
                    case measure => simp [intOf]; omega
                · have d41 : (x == 41) = false := by simp [e41]
                  have X : Hid (Bst l i (m + 1) d) := HB.out.step hpb.out hlt (stop_no gx.out hbk.out e41) (by rw [dl_other (by rw [gx.out]; exact e40) (by rw [gx.out]; exact e41)]; omega) hd0 hd32
                  by_cases h9 : 9 ≤ x
                  · have h13 : ¬ x ≤ 13 := by omega
                    have h13d : decide (x ≤ 13) = false := decide_eq_false h13
                    clear hbl
                    go_wp2_with fail
                    go_round
                    case rel => exact ⟨m + 1, d, by go_num, rfl, X⟩
                    case measure => simp [intOf]; omega
                  · have h9d : decide (9 ≤ x) = false := decide_eq_false h9
                    clear hbl
                    go_wp2_with fail
                    go_round
                    case rel => exact ⟨m + 1, d, by go_num, rfl, X⟩
                    case measure => simp [intOf]; omega
      · have HE : Hid (i + m = l.length) := by show _ = _; omega
        have hil : m ≠ 0 → i < l.length := fun h => by omega
        by_cases hm0 : m = 0
        · have X : Hid (Bare l i none) := HB.out.fin (.inl HE.out) (.inl hm0)
          have hm1 : m < 1 := by omega
          clear HB hm0
          go_wp2_with fail
          go_ret3
          exact ⟨.inl ⟨HS.out _ X.out, rfl⟩, rfl⟩
        have hmp : 0 < m := by omega
        by_cases hdp : 0 < d
        · have X : Hid (Bare l i none) := HB.out.fin (.inl HE.out) (.inr hdp)
          clear HB
          go_wp2_with fail
          go_ret3
          exact ⟨.inl ⟨HS.out _ X.out, rfl⟩, rfl⟩
        obtain rfl : d = 0 := by omega
        have X : Hid (Bare l i (some (i, i + m, i + m))) := HB.out.good (.inl HE.out) hm0
        clear HB
        obtain ⟨b, off, rfl, hc⟩ := HV.out i (by omega)
        clear hc hil
        go_wp2_with fail
        go_ret3
        refine ⟨.inr ⟨i, i + m, i + m, b, off, rfl, HS.out _ X.out, by omega, by omega, by omega, ?_⟩, rfl⟩
        have em : i + m - i = m := by omega
        rw [em]
        exact ret_three rfl rfl rfl

end Go.Proofs.Qxb6600828a
