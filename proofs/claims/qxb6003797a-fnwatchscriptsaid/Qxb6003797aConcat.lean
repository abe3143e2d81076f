import Derived.Test.Qxb6003797aPick
import Derived.Lib.AppendZeros
import Derived.Laws.AppendOwnNone
namespace Go.Proofs.Qxb6003797a
open Go.RowKit

/-- What Grow leaves of nil: no element, room for some. -/
def GrowPost (w : World) (e : Ending) (w' : World) : Prop :=
  ∃ a c, e = .returned (.slice a 0 c) ∧ w'.ownsRow w.heap.size 9 1 (.slice a 0 c) 0 [] ∧ Below w.heap.size w w'

set_option maxRecDepth 100000 in
set_option maxHeartbeats 1600000 in
theorem grow_nil (w : World) (k : Nat) (hk : k ≤ 100) :
    Calls Try.prog 56 #[.slice none 0 0, .int .i64 k] w (GrowPost w) := by
  obtain ⟨i9, hi9, z90, z91, z92⟩ := info_parts info9
  by_cases h0 : k = 0
  · subst h0
    go_enter Try.func56, Try.ntmps56
    go_wp2
    go_ret
    exact ⟨none, 0, rfl, ⟨by simp, .inl ⟨rfl, rfl⟩⟩, Below.refl _ _⟩
  · have hrun := fun ty => Lib.run_append_nil_zeros (P := Try.prog) w 22 3 ty 9 i9 _ .i64 .i64 Try.underlying22 Try.underlying3 hi9 z90 k (by omega) (by omega) (by omega) (by rw [z92]; omega)
    have hge := grownCap_ge w k 0 9
    have hle := grownCap_le_maxLen w k 0 9 (by unfold maxLen; omega)
    go_enter Try.func56, Try.ntmps56
    go_wp2_with (at_builtin; refine Lib.wpList_append_run _ rfl _ _ _ _ rfl _ _ rfl rfl _ _ (hrun _) ?_)
    go_ret
    refine ⟨some ⟨w.heap.size, 0, none⟩, grownCap w k 0 9, rfl, ⟨by simp, .inr ⟨w.heap.size, grownCap w k 0 9, _, rfl, Nat.le_refl _, Go.heap_alloc_new _ _, Nat.zero_le _, hle, ?_, by simp⟩⟩, ((Below.refl _ _).alloc (Nat.le_refl _) _).drew⟩
    simp [Builtin.zeroCells]
    omega

section
variable {P : Program} {w : World}
theorem run_append_zero (base : Nat) (t ty e : TypeId) (i : TypeInfo) (size : Nat) (ht : P.underlying t = some (.slice e)) (hi : P.info? e = some i)
    (v : Value) (n : Nat) (xs : List Value) (hown : w.ownsRow base e size v n xs) (a : Option Addr) (c : Nat) :
    (Builtin.append_ #[t, t] ty #[v, .slice a 0 c]).run P w = .ok v w := by
  have hl : ∀ ad : Addr, (loadCells ad 0).run P w = .ok #[] w := fun ad => run_loadCells_list (P := P) w ad [] (by simp)
  cases a with
  | none =>
    rcases hown.2 with ⟨rfl, rfl⟩ | ⟨g, cap, cur, rfl, _, _, hnc, _⟩
    · simp [Builtin.append_, run_underlying ht, sizeOf, typeInfo, hi, Builtin.lenOf, Builtin.firstCells]
    · simp [Builtin.append_, run_underlying ht, sizeOf, typeInfo, hi, Builtin.lenOf, Builtin.firstCells, hnc, storeCells]
  | some ad =>
    rcases hown.2 with ⟨rfl, rfl⟩ | ⟨g, cap, cur, rfl, _, _, hnc, _⟩
    · simp [Builtin.append_, run_underlying ht, sizeOf, typeInfo, hi, Builtin.lenOf, Builtin.firstCells, hl]
    · simp [Builtin.append_, run_underlying ht, sizeOf, typeInfo, hi, Builtin.lenOf, Builtin.firstCells, hnc, storeCells, hl]
end

/-- append of a list of strings, empty or not, to a row of the call's own. -/
theorem wpList_append_ss (w : World) {ops : Array Oper} {rest : List Oper} {o : Oper} {a : Act} {Q : Exit → Act → World → Prop} (hgd : o.guard = none) (s x : Operand)
    (ho : o.op = .call { callee := .builtin .append, args := #[s, x], argTypes := #[22, 22] }) (base : Nat) (av : Option Addr) (n cv : Nat) (xs : List ByteArray) (hs : a.eval s = .slice av n cv) (hown : w.ownsRow base 9 1 (.slice av n cv) n (xs.map Value.string))
    (a2 : Option Addr) (c2 : Nat) (M : List ByteArray) (hx : a.eval x = .slice a2 M.length c2) (hM : SS w a2 c2 M) (hn : n + M.length ≤ 1000) (hbase : base ≤ w.heap.size)
    (h : ∀ a' c' w', w'.ownsRow base 9 1 (.slice a' (n + M.length) c') (n + M.length) ((xs ++ M).map Value.string) → w.grownBy w' (Value.slice av n cv).ownBlock → wpList Try.prog ops Q rest (a.put o.dst (.slice a' (n + M.length) c')) w') : wpList Try.prog ops Q (o :: rest) a w := by
  obtain ⟨i9, hi9, z90, z91, z92⟩ := info_parts info9
  by_cases h0 : M.length = 0
  · obtain rfl : M = [] := List.length_eq_zero_iff.1 h0
    refine Lib.wpList_append_run w hgd s x 22 22 ho _ _ hs hx _ _ (run_append_zero base 22 _ 9 i9 1 Try.underlying22 hi9 _ n _ hown a2 c2) ?_
    have := h av cv w (by simpa using hown) ⟨rfl, rfl, rfl, Nat.le_refl _, fun _ _ _ => rfl⟩
    simpa using this
  · obtain ⟨b, off, rfl, _, hc⟩ := hM.at (by omega)
    refine wpList_append_lies w hgd s x 22 ho base 9 i9 _ 1 16 Try.underlying22 hi9 z90 z91 z92 rfl (by decide) _ n _ hs hown ⟨b, off, none⟩ M.length c2 (M.map Value.string) hx (by simp) (fun j u hu => ?_) (by simp [Value.oneCell']) (by omega) (by unfold maxLen; omega) (by omega) hbase _ rfl (fun g cap w' h2 h3 _ _ => ?_)
    · rw [Go.WideShapes.add_plain]
      rw [List.getElem?_map] at hu
      obtain ⟨s, hs, rfl⟩ := Option.map_eq_some_iff.1 hu
      obtain ⟨hj, rfl⟩ := List.getElem?_eq_some_iff.1 hs
      exact hc j hj
    · exact h _ cap w' (by rw [List.map_append]; exact h2) h3

/-- What Concat leaves. -/
def CatPost (w : World) (M : List ByteArray) (e : Ending) (w' : World) : Prop :=
  ∃ a c, e = .returned (.slice a M.length c) ∧ w'.ownsRow w.heap.size 9 1 (.slice a M.length c) M.length (M.map Value.string) ∧ Below w.heap.size w w'

set_option maxRecDepth 100000 in
set_option maxHeartbeats 3200000 in
theorem concat (w : World) (b : Nat) (a1 : Option Addr) (c1 : Nat) (L1 : List ByteArray) (a2 : Option Addr) (c2 : Nat) (L2 : List ByteArray) (hb : w.heap[b]? = some (.cells #[.slice a1 L1.length c1, .slice a2 L2.length c2] 22 (0, 0))) (s1 : SS w a1 c1 L1) (s2 : SS w a2 c2 L2) (h1 : L1.length ≤ 8) (h2 : L2.length ≤ 8) :
    Calls Try.prog 49 #[.slice (some ⟨b, 0, none⟩) 2 2] w (CatPost w (L1 ++ L2)) := by
  obtain ⟨i9, hi9, z90, z91, z92⟩ := info_parts info9
  have d0 := cell_of_row w b 0 _ _ _ hb
  have d1 := cell_of_row w b 1 _ _ _ hb
  simp at d0 d1
  have ltb := lt_of_block hb
  go_enter Try.func49, Try.ntmps49
  go_wp2_with fail
  refine wp_loop_rounds 3 ?_
  rw [rounds_succ]
  go_wp2_with fail
  rw [rounds_succ]
  go_wp2_with fail
  rw [rounds_succ]
  go_wp2_with fail
  have HG := grow_nil w (L1.length + L2.length) (by omega)
  rw [Int.natCast_add] at HG
  refine HG.mono ?_
  rintro e w1 ⟨a, c, rfl, o1, f1⟩
  have d0' : w1.cell? ⟨b, 0, none⟩ = some (.slice a1 L1.length c1) := by rw [f1.cell (p := ⟨b, 0, none⟩) ltb]; exact d0
  have t1 : SS w1 a1 c1 L1 := s1.keep (below_fr f1) (by simp)
  have hob1 := own_baseV o1
  go_wp2_with fail
  refine wp_loop_rounds 3 ?_
  rw [rounds_succ]
  go_wp2_with (at_builtin; refine wpList_append_ss _ rfl _ _ rfl w.heap.size a 0 c [] rfl o1 a1 c1 L1 rfl t1 (by omega) f1.size ?_; intro a3 c3 w2 o2 g2)
  have f2 : Below w.heap.size w w2 := f1.grown g2 f1.size hob1
  have d1' : w2.cell? ⟨b, 1, none⟩ = some (.slice a2 L2.length c2) := by rw [f2.cell (p := ⟨b, 1, none⟩) ltb]; exact d1
  have t2 : SS w2 a2 c2 L2 := s2.keep (below_fr f2) (by simp)
  have hob2 := own_baseV o2
  rw [Nat.zero_add, List.nil_append] at o2
  rw [Nat.zero_add] at hob2
  clear o1 t1 d0' hob1 g2
  rw [rounds_succ]
  go_wp2_with (at_builtin; refine wpList_append_ss _ rfl _ _ rfl w.heap.size a3 L1.length c3 L1 (by first | rfl | simp) o2 a2 c2 L2 rfl t2 (by omega) f2.size ?_; intro a4 c4 w3 o3 g3)
  rw [rounds_succ]
  go_wp2
  go_ret
  exact ⟨a4, c4, by rw [List.length_append]; rfl, by rw [List.length_append]; exact o3, f2.grown g3 f2.size hob2⟩
end Go.Proofs.Qxb6003797a
