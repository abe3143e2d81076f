import Derived.Test.Qxb6003797aGraphApp
import Derived.Test.Qxb6003797aLate
namespace Go.Proofs.Qxb6003797a
open Go.RowKit

theorem run_load66 {ρ : Operand → Value} {o : Oper} {x : Operand} (ho : o.op = Op.load 66 x) {G j : Nat} {v : Value} {w : World} (hx : ρ x = .pointer (some ⟨G, j, none⟩)) (hc : w.cell? ⟨G, j, none⟩ = some v) :
    (execOp ρ o).run Try.prog w = .ok (.value v) w := by
  simp [execOp, ho, hx, go_sem, hc]

section
variable {ops : Array Oper} {o : Oper} {a : Act} {w : World} {K : Act → World → Prop} {Q : Exit → Act → World → Prop} {i : Nat}

theorem op_build66 (dst : Option Tmp) (hi : ops[i]? = some o) (hgd : o.guard = none) (hd : o.dst = dst) (ho : o.op = Op.buildSlice 66 1 #[(0, .const (.slice none 0 0))])
    (h : K (a.put dst (.slice (some ⟨w.heap.size, 0, none⟩) 1 1)) (w.alloc (.cells #[.slice none 0 0] 136))) : wpOp Try.prog ops Q i K a w := by
  subst hd
  refine wpOp_law hi hgd ?_
  unfold Oper.wp
  simp [execOp, ho, go_sem]
  exact h

theorem run_store66 {ρ : Operand → Value} {o : Oper} {x y : Operand} (ho : o.op = Op.store 66 x y) {G j g n c : Nat} {u : Value} {w : World} (hx : ρ x = .pointer (some ⟨G, j, none⟩)) (hy : ρ y = .slice (some ⟨g, 0, none⟩) n c)
    (hc : w.cell? ⟨G, j, none⟩ = some u) (hf : w.frozen? ⟨G, j, none⟩ = false) : (execOp ρ o).run Try.prog w = .ok .skip (w.setCell ⟨G, j, none⟩ (.slice (some ⟨g, 0, none⟩) n c)) := by
  simp [execOp, ho, hx, hy, go_sem, hc, hf]

theorem op_store66 (x y : Operand) (G j g n c : Nat) (u : Value) (hi : ops[i]? = some o) (hgd : o.guard = none) (hd : o.dst = none) (ho : o.op = Op.store 66 x y)
    (hx : a.eval x = .pointer (some ⟨G, j, none⟩)) (hy : a.eval y = .slice (some ⟨g, 0, none⟩) n c) (hc : w.cell? ⟨G, j, none⟩ = some u) (hf : w.frozen? ⟨G, j, none⟩ = false)
    (h : K a (w.setCell ⟨G, j, none⟩ (.slice (some ⟨g, 0, none⟩) n c))) : wpOp Try.prog ops Q i K a w := by
  refine wpOp_law hi hgd ?_
  unfold Oper.wp
  rw [run_store66 ho hx hy hc hf]
  have e : a.put o.dst undef = a := by rw [hd]; rfl
  show K (a.put o.dst undef) _
  rw [e]
  exact h

/-- One nil slice is appended to a row of them. -/
theorem op_app136 (dst : Option Tmp) (s x : Operand) (base : Nat) (v : Value) (n g0 c : Nat) (hi : ops[i]? = some o) (hgd : o.guard = none) (hd : o.dst = dst)
    (ho : o.op = .call { callee := .builtin .append, args := #[s, x], argTypes := #[66, 66] }) (hs : a.eval s = v) (hown : w.ownsRow base 136 1 v n (List.replicate n (.slice none 0 0)))
    (hx : a.eval x = .slice (some ⟨g0, 0, none⟩) 1 c) (hblk : w.heap[g0]? = some (.cells #[.slice none 0 0] 136 (0, 0))) (hn : n ≤ 100000) (hb : base ≤ w.heap.size)
    (h : ∀ g cap w', w'.ownsRow base 136 1 (.slice (some ⟨g, 0, none⟩) (n + 1) cap) (n + 1) (List.replicate (n + 1) (.slice none 0 0)) → w.grownBy w' v.ownBlock → (v.ownBlock = some g ∨ g = w.heap.size) → K (a.put dst (.slice (some ⟨g, 0, none⟩) (n + 1) cap)) w') :
    wpOp Try.prog ops Q i K a w := by
  subst hd
  refine wpOp_law hi hgd ?_
  obtain ⟨i0, hi0, hz0, hz1, hz2⟩ := info_parts info136
  refine wp_append_lies (P := Try.prog) w s x 66 ho base 136 i0 _ 1 24 Try.underlying66 hi0 hz0 hz1 hz2 rfl (by decide) v n _ hs hown ⟨g0, 0, none⟩ 1 c [.slice none 0 0] hx rfl
    (World.news_of_block (cs := #[.slice none 0 0]) hblk) (by simp [Value.oneCell']) (by decide) (by unfold maxLen; omega) (by omega) hb w.heap.size rfl ?_
  intro g cap w' ho' hg' hl' _
  refine h g cap w' ?_ hg' hl'
  rw [List.replicate_succ']
  exact ho'
end
end Go.Proofs.Qxb6003797a
