import Derived.Test.Qxb6003797aHold
import Derived.Deep.MidRow
import Derived.Deep.Cut
namespace Go.Proofs.Qxb6003797a
open Go.RowKit

theorem setCells_block {b : Nat} {t : TypeId} : ∀ (vs : List Value) (o : Nat) (w : World) (cur : Array Value), w.heap[b]? = some (.cells cur t (0, 0)) → o + vs.length ≤ cur.size →
    (w.setCells b o vs).heap[b]? = some (.cells (cur.toList.take o ++ vs ++ cur.toList.drop (o + vs.length)).toArray t (0, 0)) ∧ w.grownBy (w.setCells b o vs) (some b)
  | [], o, w, cur, h, _ => ⟨by simpa [World.setCells] using h, ⟨rfl, rfl, rfl, Nat.le_refl _, fun _ _ _ => rfl⟩⟩
  | v :: r, o, w, cur, h, hl => by
    have h1 := heap_setCell_same w b o cur t v h
    obtain ⟨h2, h3⟩ := setCells_block r (o + 1) (w.setCell ⟨b, o, none⟩ v) _ h1 (by simp at hl ⊢; omega)
    refine ⟨?_, ⟨h3.os, h3.tape, h3.output, by have h4 : w.heap.size ≤ ((w.setCell ⟨b, o, none⟩ v).setCells b (o + 1) r).heap.size := (by have := h3.size; simpa using this); exact h4, fun k hk hne => ?_⟩⟩
    · show ((w.setCell ⟨b, o, none⟩ v).setCells b (o + 1) r).heap[b]? = _
      rw [h2]
      have ho : o < cur.toList.length := by simp at hl ⊢; omega
      congr 3
      rw [Array.toList_setIfInBounds, List.take_succ_eq_append_getElem (by simpa using ho), List.take_set_of_le (Nat.le_refl _), List.getElem_set_self, List.drop_set_of_lt (by omega)]
      simp
      omega
    · show ((w.setCell ⟨b, o, none⟩ v).setCells b (o + 1) r).heap[k]? = _
      rw [h3.block k (by simpa using hk) hne]
      exact heap_setCell_other w ⟨b, o, none⟩ k v (fun e => hne (by simp [e]))

/-- A whole block is stored over. -/
theorem wpList_store_block {P : Program} {ops : Array Oper} {rest : List Oper} {op : Oper} {a : Act} {w : World} {Q : Exit → Act → World → Prop} (hgd : op.guard = none) (ty : TypeId) (x y : Operand) (ho : op.op = .store ty x y)
    (b : Nat) (cells cur : Array Value) (t : TypeId) (hx : a.eval x = .pointer (some ⟨b, 0, none⟩)) (hy : a.eval y = .agg cells) (hb : w.heap[b]? = some (.cells cur t (0, 0))) (hsz : cur.size = cells.size)
    (hi : (P.info? ty).map (·.size) = some cells.size) (h1 : cells.all (·.oneCell') = true)
    (h : ∀ w', w'.heap[b]? = some (.cells cells t (0, 0)) → w.grownBy w' (some b) → wpList P ops Q rest (a.put op.dst undef) w') : wpList P ops Q (op :: rest) a w := by
  obtain ⟨e1, e2⟩ := setCells_block cells.toList 0 w cur hb (by simp [hsz])
  refine wpList_store_mid hgd ty x y ho b 0 cells hx hy (fun j hj => ?_) hi h1 (h _ ?_ e2)
  · rw [Nat.zero_add, cell_of_row _ _ _ _ _ _ hb]
    exact ⟨by rw [Array.getElem?_eq_getElem (by omega)]; rfl, frozen_of_row _ _ _ _ _ hb⟩
  · rw [e1, List.drop_eq_nil_of_le (by simp [hsz])]
    simp
end Go.Proofs.Qxb6003797a
