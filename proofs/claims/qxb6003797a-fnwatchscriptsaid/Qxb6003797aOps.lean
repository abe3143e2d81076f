import Derived.Test.Qxb6003797aHold2
namespace Go.Proofs.Qxb6003797a
open Go.RowKit

/-- A load of one cell. -/
theorem run_load1 {T : TypeId} {ρ : Operand → Value} {o : Oper} {x : Operand} (hT : (Try.prog.underlying T).map TypeDesc.isRow = some false) (ho : o.op = Op.load T x) {b j : Nat} {v : Value} {w : World} (hx : ρ x = .pointer (some ⟨b, j, none⟩)) (hc : w.cell? ⟨b, j, none⟩ = some v) :
    (execOp ρ o).run Try.prog w = .ok (.value v) w := by
  obtain ⟨d, hu, hd⟩ := Option.map_eq_some_iff.1 hT
  have hagg : (isAgg T).run Try.prog w = .ok false w := by
    unfold isAgg
    rw [Sem.run_bind, run_underlying hu w]
    cases d <;> simp_all [TypeDesc.isRow]
  simp [execOp, ho, hx, Instr.loadAt, Instr.sureAddr, loadVar, hagg, hc]

/-- A load of a whole block. -/
theorem run_loadB {T : TypeId} {ρ : Operand → Value} {o : Oper} {x : Operand} {cs : Array Value} {t : TypeId} {fr : Nat × Nat} (hT : (Try.prog.underlying T).map TypeDesc.isRow = some true) (hi : (Try.prog.info? T).map (·.size) = some cs.size) (ho : o.op = Op.load T x) {b : Nat} {w : World} (hx : ρ x = .pointer (some ⟨b, 0, none⟩)) (hb : w.heap[b]? = some (.cells cs t fr)) :
    (execOp ρ o).run Try.prog w = .ok (.value (.agg cs)) w := by
  obtain ⟨d, hu, hd⟩ := Option.map_eq_some_iff.1 hT
  have hr : w.rangeAt b 0 cs.toList := fun j v hv => by rw [Nat.zero_add, cell_of_row _ _ _ _ _ _ hb]; simpa using hv
  unfold execOp
  simp only [ho, hx, Instr.loadAt, Instr.sureAddr, Sem.run_bind, Sem.run_pure, Result.andThen_ok, run_loadVar_mid w b 0 T cs.toList d hr hu hd (by simpa using hi)]

section
variable {ops : Array Oper} {o : Oper} {a : Act} {w : World} {K : Act → World → Prop} {Q : Exit → Act → World → Prop} {i : Nat}

theorem op_put {T e : TypeId} (m x v : Operand) (b n : Nat) (f : ByteArray → Option Value) (s : ByteArray) (val : Value) (hi : ops[i]? = some o) (hgd : o.guard = none) (hd : o.dst = none) (ho : o.op = Op.mapUpdate T m x v) (ht : Try.prog.underlying T = some (.map 9 e))
    (hm : a.eval m = .map (some b)) (hx : a.eval x = .string s) (hv : a.eval v = val) (hM : MapF Try.prog 9 w b n f) (hn : n < maxLen) (hs : s.size ≤ maxLen)
    (h : ∀ w', MapF Try.prog 9 w' b (n + 1) (putF f s val) → w.grownBy w' (some b) → K a w') : wpOp Try.prog ops Q i K a w := by
  refine wpOp_law hi hgd ?_
  obtain ⟨w', hrun, r1, r2⟩ := hM.update Try.underlying9 ht hn hs val
  unfold Oper.wp
  simp [execOp, ho, hm, hx, hv, hrun, Result.andThen]
  have e : a.put o.dst undef = a := by rw [hd]; rfl
  show K (a.put o.dst undef) w'
  rw [e]
  exact h w' r1 r2

theorem op_alloc (T : TypeId) (cs : Array Value) (dst : Option Tmp) (hi : ops[i]? = some o) (hgd : o.guard = none) (hd : o.dst = dst) (ho : o.op = Op.alloc T) (hz : (Instr.alloc T true (.tuple #[])).run Try.prog w = .ok (.pointer (some ⟨w.heap.size, 0, none⟩)) (w.alloc (.cells cs T)))
    (h : K (a.put dst (.pointer (some ⟨w.heap.size, 0, none⟩))) (w.alloc (.cells cs T))) : wpOp Try.prog ops Q i K a w := by
  subst hd
  refine wpOp_law hi hgd ?_
  unfold Oper.wp execOp
  simp only [ho, Sem.run_bind, hz, Result.andThen_ok, Sem.run_pure]
  exact h

theorem op_storeB {T : TypeId} (x y : Operand) (b : Nat) (cells cur : Array Value) (t : TypeId) (hi : ops[i]? = some o) (hgd : o.guard = none) (hd : o.dst = none) (ho : o.op = Op.store T x y) (hx : a.eval x = .pointer (some ⟨b, 0, none⟩)) (hy : a.eval y = .agg cells)
    (hb : w.heap[b]? = some (.cells cur t (0, 0))) (hsz : cur.size = cells.size) (hinf : (Try.prog.info? T).map (·.size) = some cells.size) (h1 : cells.all (·.oneCell') = true)
    (h : ∀ w', w'.heap[b]? = some (.cells cells t (0, 0)) → w.grownBy w' (some b) → K a w') : wpOp Try.prog ops Q i K a w := by
  refine wpOp_law hi hgd ?_
  obtain ⟨e1, e2⟩ := setCells_block cells.toList 0 w cur hb (by simp [hsz])
  refine wp_store_mid T x y ho b 0 cells hx hy (fun j hj => ?_) hinf h1 ?_
  · rw [Nat.zero_add, cell_of_row _ _ _ _ _ _ hb]
    exact ⟨by rw [Array.getElem?_eq_getElem (by omega)]; rfl, frozen_of_row _ _ _ _ _ hb⟩
  · have e : a.put o.dst undef = a := by rw [hd]; rfl
    show K (a.put o.dst undef) _
    rw [e]
    refine h _ ?_ e2
    rw [e1, List.drop_eq_nil_of_le (by simp [hsz])]
    simp

/-- A call of a Go function, by its contract. -/
theorem op_call (dst : Option Tmp) (fn : Nat) (args : Array Value) {R : Ending → World → Prop} (hi : ops[i]? = some o) (hgd : o.guard = none) (hd : o.dst = dst) (hrun : ∀ w, (execOp a.eval o).run Try.prog w = .ok (.enter fn args) w)
    (hC : Calls Try.prog fn args w fun e w' => (∃ v, e = .returned v) ∧ R e w') (h : ∀ v w', R (.returned v) w' → K (a.put dst v) w') : wpOp Try.prog ops Q i K a w := by
  subst hd
  refine wpOp_law hi hgd ?_
  unfold Oper.wp
  rw [hrun]
  refine Calls.mono hC ?_
  rintro e w' ⟨⟨v, rfl⟩, hr⟩
  exact h v w' hr

/-- An operation that gives a value and turns nothing. -/
theorem op_value (dst : Option Tmp) (v : Value) (hi : ops[i]? = some o) (hgd : o.guard = none) (hd : o.dst = dst) (hrun : (execOp a.eval o).run Try.prog w = .ok (.value v) w) (h : K (a.put dst v) w) : wpOp Try.prog ops Q i K a w := by
  subst hd
  refine wpOp_law hi hgd ?_
  unfold Oper.wp
  rw [hrun]
  exact h
end
end Go.Proofs.Qxb6003797a
