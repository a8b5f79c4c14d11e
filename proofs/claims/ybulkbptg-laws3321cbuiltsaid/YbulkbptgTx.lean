/-
  A text of bytes that the call itself made, appended to: one law for one byte, one for a row of bytes.
-/
import Derived.Test.YbulkbptgNum
namespace Go.Proofs.Ybulkbptg
open Go.RowKit
set_option linter.unusedVariables false

theorem Yba.info5 : (Yba.prog.info? 5).map (fun i => (i.zero, i.size, i.bytes)) = some (some (.int .u8 0), 1, 1) := by kernel_rfl

def Tx (w wr : World) (v : Value) (xs : List Int) : Prop :=
  v ≠ .slice none 0 0 ∧ wr.ownsRow w.heap.size 5 1 v xs.length (xs.map (Value.int .u8)) ∧ Below w.heap.size w wr

theorem Tx.shape {w wr : World} {v : Value} {xs : List Int} (h : Tx w wr v xs) : ∃ g cap, v = .slice (some ⟨g, 0, none⟩) xs.length cap ∧ w.heap.size ≤ g ∧ g < wr.heap.size := by
  rcases h.2.1.2 with h1 | ⟨g, cap, cur, hv, hb, hg, _⟩
  · exact absurd h1.1 h.1
  · exact ⟨g, cap, hv, hb, lt_of_block hg⟩

theorem Tx.alloc {w wr : World} {v : Value} {xs : List Int} (h : Tx w wr v xs) (o : Obj) : Tx w (wr.alloc o) v xs := ⟨h.1, h.2.1.alloc _, h.2.2.alloc h.2.2.size _⟩

theorem wpList_txn {ops : Array Oper} {rest : List Oper} {o : Oper} {a : Act} {Q : Exit → Act → World → Prop} (hgd : o.guard = none) (s x : Operand)
    (ho : o.op = .call { callee := .builtin .append, args := #[s, x], argTypes := #[31, 31] }) {w wr : World} {v : Value} {xs ys : List Int} {ad : Addr} {m c : Nat} (hs : a.eval s = v) (hx : a.eval x = .slice (some ad) m c)
    (hT : Tx w wr v xs) (hm : ys.length = m) (hnews : ∀ j u, (ys.map (Value.int .u8))[j]? = some u → wr.cell? (ad.add j) = some u) (hl : xs.length + m ≤ 1000000)
    (h : ∀ v' w', Tx w w' v' (xs ++ ys) → wr.grownBy w' v.ownBlock → wpList Yba.prog ops Q rest (a.put o.dst v') w') : wpList Yba.prog ops Q (o :: rest) a wr := by
  obtain ⟨i0, hi, hz0, hz1, hz2⟩ := info_parts Yba.info5
  obtain ⟨h1, h2, h3⟩ := hT
  refine wpList_append_own wr hgd s x 31 ho w.heap.size 5 i0 (.int .u8 0) 1 1 Yba.underlying31 hi hz0 hz1 hz2 rfl (by decide) v xs.length _ hs h2 ad m c (ys.map (Value.int .u8)) hx (by simp [hm]) hnews (ints_oneCell _ _)
    (by unfold maxLen; omega) (by omega) h3.size ?_
  intro v' w' ho' hg hn
  refine h v' w' ⟨fun e => h1 (hn.1 e).1, ?_, h3.grown hg h3.size (fun k hk => (h2.lt k hk).1)⟩ hg
  rw [List.length_append, hm, List.map_append]
  exact ho'

theorem wpList_tx1 {ops : Array Oper} {rest : List Oper} {o : Oper} {a : Act} {Q : Exit → Act → World → Prop} (hgd : o.guard = none) (s x : Operand)
    (ho : o.op = .call { callee := .builtin .append, args := #[s, x], argTypes := #[31, 31] }) {w wr : World} {v : Value} {xs : List Int} {c : Int} (hs : a.eval s = v) (hx : a.eval x = .slice (some ⟨wr.heap.size, 0, none⟩) 1 1)
    (hT : Tx w wr v xs) (hl : xs.length ≤ 900000)
    (h : ∀ v' w', Tx w w' v' (xs ++ [c]) → wpList Yba.prog ops Q rest (a.put o.dst v') w') : wpList Yba.prog ops Q (o :: rest) a (wr.alloc (.cells #[.int .u8 c] 5)) := by
  refine wpList_txn hgd s x ho (w := w) (xs := xs) (ys := [c]) hs hx (hT.alloc _) rfl ?_ (by omega) (fun v' w' h1 h2 => h v' w' h1)
  intro j u hj
  match j, hj with
  | 0, hj => simp at hj; subst hj; simp [Addr.add]

theorem own_cell {W : World} {base g n cap : Nat} {xs : List Int} (h : W.ownsRow base 5 1 (.slice (some ⟨g, 0, none⟩) n cap) n (xs.map (Value.int .u8))) (i : Nat) (hi : i < n) :
    W.cell? ⟨g, 0 + i, none⟩ = some (.int .u8 (xs.getD i 0)) := by
  have hl : xs.length = n := by simpa using h.1
  rw [Nat.zero_add, h.cellAt i (by omega)]
  simp [List.getD, show i < xs.length by omega]

theorem own_below {w w' : World} {B base : Nat} {e : TypeId} {size : Nat} {v : Value} {n : Nat} {xs : List Value} (h : w.ownsRow base e size v n xs) (hb : Below B w w') (hlt : ∀ g, v.ownBlock = some g → g < B) :
    w'.ownsRow base e size v n xs := by
  refine ⟨h.1, ?_⟩
  rcases h.2 with hn | ⟨g, cap, cur, rfl, hg, hgg, rest⟩
  · exact .inl hn
  · exact .inr ⟨g, cap, cur, rfl, hg, by rw [hb.block g (hlt g rfl)]; exact hgg, rest⟩

end Go.Proofs.Ybulkbptg
