import Derived.Test.Qxb6003797aScript
import Derived.Test.Qxb6003797aInts
import Derived.Test.Qxb6003797aBytesW
namespace Go.Proofs.Qxb6003797a
open Go.RowKit

/-- The law's memory besides the node: its four slices, and the row of snapshots, of which the first k are those of (N, S). -/
structure EV (w0 : World) (B H g1 o1 gk gm gw : Nat) (L : List ByteArray) (K M W : List Int) (w : World) (k : Nat) (N : NBw) (S : SIw) : Prop where
  nm : ∀ j (h : j < L.length), w.cell? ⟨g1, o1 + j, none⟩ = some (.string L[j])
  km : ∀ j (h : j < K.length), w.cell? ⟨gk, j, none⟩ = some (.int .u8 K[j])
  mm : ∀ j (h : j < M.length), w.cell? ⟨gm, j, none⟩ = some (.int .u32 M[j])
  wm : ∀ j (h : j < W.length), w.cell? ⟨gw, j, none⟩ = some (.int .i64 W[j])
  row : ∃ cur, w.heap[H]? = some (.cells cur 47 (0, 0)) ∧ cur.size = 6 * L.length ∧ ∀ i (h : i < L.length), i < k → ∀ j v, (snapC (N L[i]) (S L[i]).isSome)[j]? = some v → cur[6 * i + j]? = some v
  bel : Below w0.heap.size w0 w
  b1 : g1 < B
  b2 : gk < B
  b3 : gm < B
  b4 : gw < B
  b5 : B + 16 < H
  b6 : w0.heap.size ≤ B

section
variable {w0 w w' : World} {B H g1 o1 gk gm gw k : Nat} {L : List ByteArray} {K M W : List Int} {N N' : NBw} {S S' : SIw}

theorem EV.lt (h : EV w0 B H g1 o1 gk gm gw L K M W w k N S) : H < w.heap.size := by
  obtain ⟨cur, hc, -⟩ := h.row
  exact lt_of_block hc

theorem EV.cell (h : EV w0 B H g1 o1 gk gm gw L K M W w k N S) {R : List (Option Nat)} (hf : Fr w w' R) (hR : ∀ k, some k ∈ R → B ≤ k) {b o : Nat} (hb : b < B) : w'.cell? ⟨b, o, none⟩ = w.cell? ⟨b, o, none⟩ :=
  World.cell?_of_block (hf.block b (by have := h.lt; have := h.b5; omega) (fun hm => by have := hR b hm; omega))

theorem EV.keep {R : List (Option Nat)} (h : EV w0 B H g1 o1 gk gm gw L K M W w k N S) (hf : Fr w w' R) (hR : ∀ k, some k ∈ R → B ≤ k ∧ k ≤ B + 16) : EV w0 B H g1 o1 gk gm gw L K M W w' k N S := by
  have hlow : ∀ {b o : Nat}, b < B → w'.cell? ⟨b, o, none⟩ = w.cell? ⟨b, o, none⟩ := fun hb => h.cell hf (fun k hk => (hR k hk).1) hb
  refine ⟨fun j hj => ?_, fun j hj => ?_, fun j hj => ?_, fun j hj => ?_, ?_, ?_, h.b1, h.b2, h.b3, h.b4, h.b5, h.b6⟩
  · rw [hlow h.b1]; exact h.nm j hj
  · rw [hlow h.b2]; exact h.km j hj
  · rw [hlow h.b3]; exact h.mm j hj
  · rw [hlow h.b4]; exact h.wm j hj
  · obtain ⟨cur, hc, hs⟩ := h.row
    exact ⟨cur, hf.keepB hc (fun hm => by have := (hR _ hm).2; have := h.b5; omega), hs⟩
  · exact h.bel.trans (hf.below h.bel.size (fun k hk => Nat.le_trans h.b6 (hR k hk).1))

/-- Of none of the snapshots anything is said. -/
theorem EV.reset (h : EV w0 B H g1 o1 gk gm gw L K M W w k N S) : EV w0 B H g1 o1 gk gm gw L K M W w 0 N' S' := by
  obtain ⟨cur, hc, hs, -⟩ := h.row
  exact ⟨h.nm, h.km, h.mm, h.wm, ⟨cur, hc, hs, fun i _ hi => absurd hi (Nat.not_lt_zero _)⟩, h.bel, h.b1, h.b2, h.b3, h.b4, h.b5, h.b6⟩

theorem snapC_size (x : Option (Int × Bool)) (y : Bool) : (snapC x y).size = 6 := rfl

theorem EV.there (h : EV w0 B H g1 o1 gk gm gw L K M W w k N S) {i : Nat} (hi : i < L.length) : w.there H (i * 6) 6 := by
  obtain ⟨cur, hc, hs, -⟩ := h.row
  intro j hj
  rw [cell_of_row _ _ _ _ _ _ hc]
  exact ⟨by rw [Array.getElem?_eq_getElem (by omega)]; rfl, frozen_of_row _ _ _ _ _ hc⟩

/-- The next snapshot is stored. -/
theorem EV.store (h : EV w0 B H g1 o1 gk gm gw L K M W w k N S) (hk : k < L.length) :
    EV w0 B H g1 o1 gk gm gw L K M W (w.setCells H (k * 6) (snapC (N L[k]) (S L[k]).isSome).toList) (k + 1) N S ∧ Fr w (w.setCells H (k * 6) (snapC (N L[k]) (S L[k]).isSome).toList) [some H] := by
  obtain ⟨cur, hc, hs, hcs⟩ := h.row
  obtain ⟨e1, e2⟩ := setCells_block (snapC (N L[k]) (S L[k]).isSome).toList (k * 6) w cur hc (by rw [Array.length_toList, snapC_size]; omega)
  have hf : Fr w (w.setCells H (k * 6) (snapC (N L[k]) (S L[k]).isSome).toList) [some H] := Fr.of_grown e2 (.inl (by simp))
  have h5 := h.b5
  have hlow : ∀ {b o : Nat}, b < B → (w.setCells H (k * 6) (snapC (N L[k]) (S L[k]).isSome).toList).cell? ⟨b, o, none⟩ = w.cell? ⟨b, o, none⟩ := fun hb => h.cell hf (fun k hk => by simp at hk; omega) hb
  refine ⟨⟨fun j hj => ?_, fun j hj => ?_, fun j hj => ?_, fun j hj => ?_, ⟨_, e1, ?_, ?_⟩, ?_, h.b1, h.b2, h.b3, h.b4, h.b5, h.b6⟩, hf⟩
  · rw [hlow h.b1]; exact h.nm j hj
  · rw [hlow h.b2]; exact h.km j hj
  · rw [hlow h.b3]; exact h.mm j hj
  · rw [hlow h.b4]; exact h.wm j hj
  · have : (snapC (N L[k]) (S L[k]).isSome).toList.length = 6 := rfl
    simp only [List.size_toArray, List.length_append, List.length_take, List.length_drop, Array.length_toList, this]
    omega
  · intro i hi hik j v hv
    have hj : j < 6 := by
      have := (Array.getElem?_eq_some_iff.1 hv).1
      rw [snapC_size] at this
      exact this
    have hl : (snapC (N L[k]) (S L[k]).isSome).toList.length = 6 := rfl
    have ht : (cur.toList.take (k * 6)).length = k * 6 := by rw [List.length_take, Array.length_toList]; omega
    rw [List.getElem?_toArray]
    by_cases e : i = k
    · subst e
      rw [List.append_assoc, List.getElem?_append_right (by omega), ht, List.getElem?_append_left (by omega), show 6 * i + j - i * 6 = j by omega, Array.getElem?_toList]
      exact hv
    · rw [List.append_assoc, List.getElem?_append_left (by omega), List.getElem?_take_of_lt (by omega), Array.getElem?_toList]
      exact hcs i hi (by omega) j v hv
  · exact h.bel.trans (hf.below h.bel.size (fun k hk => by have := h.b6; simp at hk; omega))

theorem EV.range (h : EV w0 B H g1 o1 gk gm gw L K M W w k N S) {i : Nat} (hi : i < L.length) (hik : i < k) : w.rangeAt H (i * 6) (snapC (N L[i]) (S L[i]).isSome).toList := by
  obtain ⟨cur, hc, hs, hcs⟩ := h.row
  intro j v hv
  rw [cell_of_row _ _ _ _ _ _ hc, Nat.mul_comm]
  exact hcs i hi hik j v (by simpa using hv)
end

/-- Two snapshots that are the same are not unlike. -/
theorem wpList_neq47 {ops : Array Oper} {rest : List Oper} {op : Oper} {a : Act} {w : World} {Q : Exit → Act → World → Prop} (hgd : op.guard = none) (x y : Operand) (t : TypeId) (ho : op.op = .binOp .neq 47 x y t)
    (l : Int) (i o s : Bool) (hx : a.eval x = .agg #[.int .i64 l, .int .u64 0, .int .u64 0, .bool i, .bool o, .bool s]) (hy : a.eval y = .agg #[.int .i64 l, .int .u64 0, .int .u64 0, .bool i, .bool o, .bool s])
    (h : wpList Try.prog ops Q rest (a.put op.dst (.bool false)) w) : wpList Try.prog ops Q (op :: rest) a w := by
  refine wpList_plain hgd fun K hK => ?_
  unfold Oper.wp
  have e : (execOp a.eval op).run Try.prog w = .ok (.value (.bool false)) w := by
    simp only [execOp, ho, hx, hy, Sem.run_bind, neq47]
    simp [eqGuard]
  rw [e]
  exact hK _ _ h
section
variable {w0 w : World} {B H g1 o1 gk gm gw k : Nat} {L : List ByteArray} {K M W : List Int} {N : NBw} {S : SIw} {ops : Array Oper} {rest : List Oper} {op : Oper} {a : Act} {Q : Exit → Act → World → Prop}

theorem snapC_one (x : Option (Int × Bool)) (y : Bool) : (snapC x y).all (·.oneCell') = true := by simp [snapC, Value.oneCell']
theorem size47 : (Try.prog.info? 47).map (·.size) = some 6 := by kernel_rfl

theorem wpList_store_ev (hgd : op.guard = none) (x y : Operand) (ho : op.op = .store 47 x y) (h : EV w0 B H g1 o1 gk gm gw L K M W w k N S) (hk : k < L.length) (o : Nat) (hx : a.eval x = .pointer (some ⟨H, o, none⟩)) (hO : o = k * 6) (hy : a.eval y = .agg (snapC (N L[k]) (S L[k]).isSome))
    (hK : ∀ w1, EV w0 B H g1 o1 gk gm gw L K M W w1 (k + 1) N S → Fr w w1 [some H] → wpList Try.prog ops Q rest (a.put op.dst undef) w1) : wpList Try.prog ops Q (op :: rest) a w := by
  subst hO
  obtain ⟨h1, h2⟩ := h.store hk
  exact wpList_store_mid hgd 47 x y ho H (k * 6) (snapC (N L[k]) (S L[k]).isSome) hx hy (h.there hk) size47 (snapC_one _ _) (hK _ h1 h2)

theorem wpList_load_ev (hgd : op.guard = none) (x : Operand) (ho : op.op = .load 47 x) (h : EV w0 B H g1 o1 gk gm gw L K M W w k N S) {i : Nat} (hi : i < L.length) (hik : i < k) (o : Nat) (hx : a.eval x = .pointer (some ⟨H, o, none⟩)) (hO : o = i * 6)
    (hK : wpList Try.prog ops Q rest (a.put op.dst (.agg (snapC (N L[i]) (S L[i]).isSome))) w) : wpList Try.prog ops Q (op :: rest) a w := by
  subst hO
  exact wpList_load_mid hgd 47 x ho H (i * 6) hx (snapC (N L[i]) (S L[i]).isSome).toList _ (h.range hi hik) u47 rfl size47 hK

/-- A snapshot goes into a block that has just been made. -/
theorem wpList_store_snap (hgd : op.guard = none) (x y : Operand) (ho : op.op = .store 47 x y) (b : Nat) (cur : Array Value) (hx : a.eval x = .pointer (some ⟨b, 0, none⟩)) (p : Option (Int × Bool)) (q : Bool) (hy : a.eval y = .agg (snapC p q)) (hb : w.heap[b]? = some (.cells cur 47 (0, 0))) (hc : cur.size = 6)
    (hK : ∀ w1, w1.heap[b]? = some (.cells (snapC p q) 47 (0, 0)) → w.grownBy w1 (some b) → wpList Try.prog ops Q rest (a.put op.dst undef) w1) : wpList Try.prog ops Q (op :: rest) a w :=
  wpList_store_block hgd 47 x y ho b (snapC p q) cur 47 hx hy hb hc size47 (snapC_one _ _) hK

theorem wpList_load_snap (hgd : op.guard = none) (x : Operand) (ho : op.op = .load 47 x) (b : Nat) (hx : a.eval x = .pointer (some ⟨b, 0, none⟩)) (p : Option (Int × Bool)) (q : Bool) (hb : w.heap[b]? = some (.cells (snapC p q) 47 (0, 0)))
    (hK : wpList Try.prog ops Q rest (a.put op.dst (.agg (snapC p q))) w) : wpList Try.prog ops Q (op :: rest) a w :=
  wpList_loadB (cs := snapC p q) x hgd ho (by rw [u47]; rfl) size47 b hx hb hK

theorem wpList_neq_snap (hgd : op.guard = none) (x y : Operand) (t : TypeId) (ho : op.op = .binOp .neq 47 x y t) (p : Option (Int × Bool)) (q : Bool) (hx : a.eval x = .agg (snapC p q)) (hy : a.eval y = .agg (snapC p q))
    (h : wpList Try.prog ops Q rest (a.put op.dst (.bool false)) w) : wpList Try.prog ops Q (op :: rest) a w :=
  wpList_neq47 hgd x y t ho _ _ _ _ hx hy h
end
end Go.Proofs.Qxb6003797a
