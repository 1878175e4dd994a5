import Derived.Test.Qxb6600698aLit
import Derived.Laws.IdiomStrings
import Derived.Laws.BytesArg
namespace Go.Proofs.Qxb6600698a
open Go.RowKit Plain

/-! The plain part: one forward scan. -/
theorem isLast_snoc_hit (t : List UInt8) (c : UInt8) : IsLast (t ++ [c]) c t.length := .inr ⟨t, [], rfl, by simp, rfl⟩
theorem isLast_snoc_miss {t : List UInt8} {c x : UInt8} {r : Int} (h : IsLast t c r) (hx : x ≠ c) : IsLast (t ++ [x]) c r := by
  rcases h with ⟨h1, h2⟩ | ⟨a, b, h1, h2, h3⟩
  · exact .inl ⟨h1, by simp only [List.mem_append, List.mem_singleton, not_or]; exact ⟨h2, fun e => hx e.symm⟩⟩
  · exact .inr ⟨a, b ++ [x], by rw [h1]; simp, by simp only [List.mem_append, List.mem_singleton, not_or]; exact ⟨h2, fun e => hx e.symm⟩, h3⟩

def Scan (t : List UInt8) (e z p : Int) : Prop := IsLast t 37 p ∧ ((e = -1 ∧ z = -1 ∧ (93 : UInt8) ∉ t) ∨ ∃ a b, t = a ++ 93 :: b ∧ (93 : UInt8) ∉ b ∧ e = (a.length : Int) ∧ IsLast a 37 z)

theorem scan_nil : Scan [] (-1) (-1) (-1) := ⟨.inl ⟨rfl, by simp⟩, .inl ⟨rfl, rfl, by simp⟩⟩
theorem scan_keep {t : List UInt8} {e z q : Int} {x : UInt8} (h : (e = -1 ∧ z = -1 ∧ (93 : UInt8) ∉ t) ∨ ∃ a b, t = a ++ 93 :: b ∧ (93 : UInt8) ∉ b ∧ e = (a.length : Int) ∧ IsLast a 37 z) (hx : x ≠ 93) (hq : IsLast (t ++ [x]) 37 q) : Scan (t ++ [x]) e z q := by
  refine ⟨hq, ?_⟩
  rcases h with ⟨h1, h2, h3⟩ | ⟨a, b, h1, h2, h3, h4⟩
  · exact .inl ⟨h1, h2, by simp only [List.mem_append, List.mem_singleton, not_or]; exact ⟨h3, fun e => hx e.symm⟩⟩
  · exact .inr ⟨a, b ++ [x], by rw [h1]; simp, by simp only [List.mem_append, List.mem_singleton, not_or]; exact ⟨h2, fun e => hx e.symm⟩, h3, h4⟩
theorem scan_pct {t : List UInt8} {e z p : Int} (h : Scan t e z p) : Scan (t ++ [37]) e z t.length := scan_keep h.2 (by decide) (isLast_snoc_hit t 37)
theorem scan_end {t : List UInt8} {e z p : Int} (h : Scan t e z p) : Scan (t ++ [93]) t.length p p :=
  ⟨isLast_snoc_miss h.1 (by decide), .inr ⟨t, [], rfl, by simp, rfl, h.1⟩⟩
theorem scan_other {t : List UInt8} {e z p : Int} {x : UInt8} (h : Scan t e z p) (h1 : x ≠ 37) (h2 : x ≠ 93) : Scan (t ++ [x]) e z p := scan_keep h.2 h2 (isLast_snoc_miss h.1 h1)

theorem scan_bounds {t : List UInt8} {e z p : Int} (h : Scan t e z p) : -1 ≤ e ∧ e < t.length ∨ t = [] ∧ e = -1 ∧ z = -1 ∧ p = -1 := by
  rcases h.2 with ⟨h1, h2, _⟩ | ⟨a, b, h1, _, h3, _⟩
  · cases t with
    | nil =>
      right
      rcases h.1 with ⟨h4, _⟩ | ⟨c, d, h4, _⟩
      · exact ⟨rfl, h1, h2, h4⟩
      · simp at h4
    | cons x t => left; rw [h1]; simp; omega
  · left; rw [h1, h3]; simp; omega

/-! A slice of bytes of the call's own that grows. -/
def cellsU (l : List UInt8) : List Value := l.map fun b => Value.int .u8 (b.toNat : Int)

theorem Try.info5 : (Try.prog.info? 5).map (fun i => (i.zero, i.size, i.bytes)) = some (some (.int .u8 0), 1, 1) := by kernel_rfl

theorem own_block_ge {w : World} {base : Nat} {v : Value} {n : Nat} {xs : List Value} (h : w.ownsRow base 5 1 v n xs) : ∀ k, v.ownBlock = some k → base ≤ k := by
  intro k hk
  rcases h.2 with ⟨rfl, _⟩ | ⟨g, cap, cur, rfl, hb, _⟩
  · simp [Value.ownBlock] at hk
  · simp [Value.ownBlock] at hk; omega

theorem wpList_append_byte {w0 : World} {ops : Array Oper} {rest : List Oper} {o : Oper} {a : Act} {Q : Exit → Act → World → Prop} (hgd : o.guard = none) (s x : Operand)
    (ho : o.op = .call { callee := .builtin .append, args := #[s, x], argTypes := #[26, 26] }) (base : Nat) (v : Value) (l : List UInt8) (c : UInt8) (hs : a.eval s = v) (hown : w0.ownsRow base 5 1 v l.length (cellsU l))
    (hx : a.eval x = .slice (some ⟨w0.heap.size, 0, none⟩) 1 1) (hlen : l.length + 1 ≤ 140737488355328) (hbase : base ≤ w0.heap.size)
    (h : ∀ v' w', w'.ownsRow base 5 1 v' (l ++ [c]).length (cellsU (l ++ [c])) → Below base w0 w' → wpList Try.prog ops Q rest (a.put o.dst v') w') :
    wpList Try.prog ops Q (o :: rest) a (w0.alloc (.cells #[.int .u8 (c.toNat : Int)] 5)) := by
  obtain ⟨i0, hi, hz0, hz1, hz2⟩ := info_parts Try.info5
  have hh := heap_alloc_new w0 (.cells #[.int .u8 (c.toNat : Int)] 5)
  refine wpList_append_own _ hgd s x 26 ho base 5 i0 (.int .u8 0) 1 1 Try.underlying26 hi hz0 hz1 hz2 rfl (by decide) v l.length (cellsU l) hs (hown.alloc _) ⟨w0.heap.size, 0, none⟩ 1 1 (cellsU [c]) hx rfl ?_ ?_ (by unfold maxLen; omega) (by omega) (by simp; omega) ?_
  · intro j u hu
    match j, hu with
    | 0, hu =>
      have : u = .int .u8 (c.toNat : Int) := by simpa [cellsU] using hu.symm
      rw [this, Addr.add_lit, Nat.zero_add, cell_of_row _ _ _ _ _ _ hh]; rfl
  · intro u hu; simp [cellsU] at hu; subst hu; rfl
  · intro v' w' h1 h2 _
    refine h v' w' ?_ ?_
    · simpa [cellsU] using h1
    · exact ((Below.refl _ _).alloc hbase _).grown h2 (by simp; omega) (own_block_ge hown)

theorem conv_own {w : World} {base : Nat} {v : Value} {l : List UInt8} (h : w.ownsRow base 5 1 v l.length (cellsU l)) : (convert 26 9 v).run Try.prog w = .ok (.string ⟨l.toArray⟩) w := by
  have h' := h
  rcases h.2 with ⟨rfl, hn⟩ | ⟨g, cap, cur, rfl, hb, _⟩
  · have : l = [] := List.length_eq_zero_iff.1 hn
    subst this
    exact run_convert_bytes_nil w 26 5 Try.underlying26 Try.underlying5 0 0 9 Try.underlying9
  · refine run_convert_bytes_back w 26 9 5 ⟨g, 0, none⟩ cap l Try.underlying26 Try.underlying5 Try.underlying9 ?_
    intro j hj
    rw [Addr.add_lit, Nat.zero_add, h'.cellAt j (by omega)]
    simp [cellsU, hj]

end Go.Proofs.Qxb6600698a
