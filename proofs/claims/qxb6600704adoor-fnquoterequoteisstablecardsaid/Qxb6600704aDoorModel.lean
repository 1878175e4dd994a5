import Derived.Test.Qxb6600704aDoorWs
import Derived.Laws.IdiomStrings
import Derived.Laws.BytesArg
namespace Go.Proofs.Qxb6600704aDoor
open Go.RowKit Plain

theorem ret_str {a b : ByteArray} (h : a = b) : Ending.returned (.string a) = .returned (.string b) := by rw [h]
def cellsU (l : List UInt8) : List Value := l.map fun b => Value.int .u8 (b.toNat : Int)

theorem own_block_ge {w : World} {base : Nat} {v : Value} {n : Nat} {xs : List Value} (h : w.ownsRow base 5 1 v n xs) : ∀ k, v.ownBlock = some k → base ≤ k := by
  intro k hk
  rcases h.2 with ⟨rfl, _⟩ | ⟨g, cap, cur, rfl, hb, _⟩
  · simp [Value.ownBlock] at hk
  · simp [Value.ownBlock] at hk; omega

theorem wpList_append_byte {w0 : World} {ops : Array Oper} {rest : List Oper} {o : Oper} {a : Act} {Q : Exit → Act → World → Prop} (hgd : o.guard = none) (s x : Operand)
    (ho : o.op = .call { callee := .builtin .append, args := #[s, x], argTypes := #[27, 27] }) (base : Nat) (v : Value) (l : List UInt8) (c : UInt8) (hs : a.eval s = v) (hown : w0.ownsRow base 5 1 v l.length (cellsU l))
    (hx : a.eval x = .slice (some ⟨w0.heap.size, 0, none⟩) 1 1) (hlen : l.length + 1 ≤ 140737488355328) (hbase : base ≤ w0.heap.size)
    (h : ∀ v' w', w'.ownsRow base 5 1 v' (l ++ [c]).length (cellsU (l ++ [c])) → Below base w0 w' → wpList Tryd.prog ops Q rest (a.put o.dst v') w') :
    wpList Tryd.prog ops Q (o :: rest) a (w0.alloc (.cells #[.int .u8 (c.toNat : Int)] 5)) := by
  obtain ⟨i0, hi, hz0, hz1, hz2⟩ := info_parts Tryd.info5
  have hh := heap_alloc_new w0 (.cells #[.int .u8 (c.toNat : Int)] 5)
  refine wpList_append_own _ hgd s x 27 ho base 5 i0 (.int .u8 0) 1 1 Tryd.underlying27 hi hz0 hz1 hz2 rfl (by decide) v l.length (cellsU l) hs (hown.alloc _) ⟨w0.heap.size, 0, none⟩ 1 1 (cellsU [c]) hx rfl ?_ ?_ (by unfold maxLen; omega) (by omega) (by simp; omega) ?_
  · intro j u hu
    match j, hu with
    | 0, hu =>
      have : u = .int .u8 (c.toNat : Int) := by simpa [cellsU] using hu.symm
      rw [this, Addr.add_lit, Nat.zero_add, cell_of_row _ _ _ _ _ _ hh]; rfl
  · intro u hu; simp [cellsU] at hu; subst hu; rfl
  · intro v' w' h1 h2 _
    refine h v' w' ?_ ?_
    · simpa [cellsU] using h1
    · exact ((Below.refl _ _).alloc hbase _).grown h2 (by simp; omega) (own_block_ge hown)

theorem conv_own {w : World} {base : Nat} {v : Value} {l : List UInt8} (h : w.ownsRow base 5 1 v l.length (cellsU l)) : (convert 27 9 v).run Tryd.prog w = .ok (.string ⟨l.toArray⟩) w := by
  have h' := h
  rcases h.2 with ⟨rfl, hn⟩ | ⟨g, cap, cur, rfl, hb, _⟩
  · have : l = [] := List.length_eq_zero_iff.1 hn
    subst this
    exact run_convert_bytes_nil w 27 5 Tryd.underlying27 Tryd.underlying5 0 0 9 Tryd.underlying9
  · refine run_convert_bytes_back w 27 9 5 ⟨g, 0, none⟩ cap l Tryd.underlying27 Tryd.underlying5 Tryd.underlying9 ?_
    intro j hj
    rw [Addr.add_lit, Nat.zero_add, h'.cellAt j (by omega)]
    simp [cellsU, hj]
end Go.Proofs.Qxb6600704aDoor
