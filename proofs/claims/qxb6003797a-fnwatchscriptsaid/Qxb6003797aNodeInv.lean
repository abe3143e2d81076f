import Derived.Test.Qxb6003797aSeen
namespace Go.Proofs.Qxb6003797a
open Go.RowKit

/-- What the maps of a node hold. -/
structure NF where
  nb : ByteArray → Option Value
  si : ByteArray → Option Value
  re : ByteArray → Option Value
  pe : ByteArray → Option Value
  ri : ByteArray → Option Value
  rl : ByteArray → Option Value
  la : ByteArray → Option Value
  af : ByteArray → Option Value
  op : ByteArray → Option Value
  hr : ByteArray → Option Value

/-- The cells of a node's box, its maps in the blocks from B on. -/
structure NC (B : Nat) (cs : Array Value) : Prop where
  size : cs.size = 66
  id : cs[0]? = some (.string ⟨#[115, 101, 108, 102]⟩)
  inst : cs[28]? = some (.int .i64 0)
  nb : cs[1]? = some (.map (some (B + 1)))
  si : cs[2]? = some (.map (some (B + 2)))
  re : cs[3]? = some (.map (some (B + 3)))
  pe : cs[4]? = some (.map (some (B + 4)))
  ri : cs[5]? = some (.map (some (B + 5)))
  rl : cs[6]? = some (.map (some (B + 6)))
  la : cs[10]? = some (.map (some (B + 8)))
  af : cs[11]? = some (.map (some (B + 9)))
  op : cs[50]? = some (.map (some (B + 12)))
  hr : cs[64]? = some (.map (some (B + 15)))

/-- A NODE IN MEMORY: its box is block B + 16, its maps lie in the blocks from B + 1 on; each holds at most n entries. -/
structure NI (w : World) (B n : Nat) (F : NF) : Prop where
  box : ∃ cs, w.heap[B + 16]? = some (.cells cs 94 (0, 0)) ∧ NC B cs
  nb : MapF Try.prog 9 w (B + 1) n F.nb
  si : MapF Try.prog 9 w (B + 2) n F.si
  re : MapF Try.prog 9 w (B + 3) n F.re
  pe : MapF Try.prog 9 w (B + 4) n F.pe
  ri : MapF Try.prog 9 w (B + 5) n F.ri
  rl : MapF Try.prog 9 w (B + 6) n F.rl
  la : MapF Try.prog 9 w (B + 8) n F.la
  af : MapF Try.prog 9 w (B + 9) n F.af
  op : MapF Try.prog 9 w (B + 12) n F.op
  hr : MapF Try.prog 9 w (B + 15) n F.hr

section
variable {w w1 : World} {B n : Nat} {F : NF}

theorem NI.lt (h : NI w B n F) : B + 16 < w.heap.size := let ⟨_, h1, _⟩ := h.box; lt_of_block h1
theorem NI.fz (h : NI w B n F) (j : Nat) : w.frozen? ⟨B + 16, j, none⟩ = false := let ⟨_, h1, _⟩ := h.box; frozen_of_row _ _ _ _ _ h1
theorem NI.there (h : NI w B n F) (j : Nat) (hj : j < 66) : ∃ u, w.cell? ⟨B + 16, j, none⟩ = some u := by
  obtain ⟨cs, h1, h2⟩ := h.box
  rw [cell_of_row _ _ _ _ _ _ h1]
  exact ⟨_, Array.getElem?_eq_getElem (by rw [h2.size]; exact hj)⟩
theorem NI.c_id (h : NI w B n F) : w.cell? ⟨B + 16, 0, none⟩ = some (.string ⟨#[115, 101, 108, 102]⟩) := by
  obtain ⟨cs, h1, h2⟩ := h.box
  rw [cell_of_row _ _ _ _ _ _ h1, h2.id]
theorem NI.c_inst (h : NI w B n F) : w.cell? ⟨B + 16, 28, none⟩ = some (.int .i64 0) := by
  obtain ⟨cs, h1, h2⟩ := h.box
  rw [cell_of_row _ _ _ _ _ _ h1, h2.inst]
theorem NI.c_nb (h : NI w B n F) : w.cell? ⟨B + 16, 1, none⟩ = some (.map (some (B + 1))) := by
  obtain ⟨cs, h1, h2⟩ := h.box
  rw [cell_of_row _ _ _ _ _ _ h1, h2.nb]
theorem NI.c_si (h : NI w B n F) : w.cell? ⟨B + 16, 2, none⟩ = some (.map (some (B + 2))) := by
  obtain ⟨cs, h1, h2⟩ := h.box
  rw [cell_of_row _ _ _ _ _ _ h1, h2.si]
theorem NI.c_re (h : NI w B n F) : w.cell? ⟨B + 16, 3, none⟩ = some (.map (some (B + 3))) := by
  obtain ⟨cs, h1, h2⟩ := h.box
  rw [cell_of_row _ _ _ _ _ _ h1, h2.re]
theorem NI.c_pe (h : NI w B n F) : w.cell? ⟨B + 16, 4, none⟩ = some (.map (some (B + 4))) := by
  obtain ⟨cs, h1, h2⟩ := h.box
  rw [cell_of_row _ _ _ _ _ _ h1, h2.pe]
theorem NI.c_ri (h : NI w B n F) : w.cell? ⟨B + 16, 5, none⟩ = some (.map (some (B + 5))) := by
  obtain ⟨cs, h1, h2⟩ := h.box
  rw [cell_of_row _ _ _ _ _ _ h1, h2.ri]
theorem NI.c_rl (h : NI w B n F) : w.cell? ⟨B + 16, 6, none⟩ = some (.map (some (B + 6))) := by
  obtain ⟨cs, h1, h2⟩ := h.box
  rw [cell_of_row _ _ _ _ _ _ h1, h2.rl]
theorem NI.c_la (h : NI w B n F) : w.cell? ⟨B + 16, 10, none⟩ = some (.map (some (B + 8))) := by
  obtain ⟨cs, h1, h2⟩ := h.box
  rw [cell_of_row _ _ _ _ _ _ h1, h2.la]
theorem NI.c_af (h : NI w B n F) : w.cell? ⟨B + 16, 11, none⟩ = some (.map (some (B + 9))) := by
  obtain ⟨cs, h1, h2⟩ := h.box
  rw [cell_of_row _ _ _ _ _ _ h1, h2.af]
theorem NI.c_op (h : NI w B n F) : w.cell? ⟨B + 16, 50, none⟩ = some (.map (some (B + 12))) := by
  obtain ⟨cs, h1, h2⟩ := h.box
  rw [cell_of_row _ _ _ _ _ _ h1, h2.op]
theorem NI.c_hr (h : NI w B n F) : w.cell? ⟨B + 16, 64, none⟩ = some (.map (some (B + 15))) := by
  obtain ⟨cs, h1, h2⟩ := h.box
  rw [cell_of_row _ _ _ _ _ _ h1, h2.hr]

/-- Nothing of the node has turned. -/
theorem NI.keep {R : List (Option Nat)} (h : NI w B n F) (hf : Fr w w1 R) (hR : ∀ k, B ≤ k → k ≤ B + 16 → some k ∉ R) : NI w1 B n F := by
  obtain ⟨cs, h1, h2⟩ := h.box
  exact ⟨⟨cs, by rw [hf.block _ (lt_of_block h1) (hR _ (by omega) (by omega))]; exact h1, h2⟩, hf.map h.nb (hR _ (by omega) (by omega)), hf.map h.si (hR _ (by omega) (by omega)), hf.map h.re (hR _ (by omega) (by omega)), hf.map h.pe (hR _ (by omega) (by omega)), hf.map h.ri (hR _ (by omega) (by omega)), hf.map h.rl (hR _ (by omega) (by omega)), hf.map h.la (hR _ (by omega) (by omega)), hf.map h.af (hR _ (by omega) (by omega)), hf.map h.op (hR _ (by omega) (by omega)), hf.map h.hr (hR _ (by omega) (by omega))⟩
theorem NI.alloc (h : NI w B n F) (o : Obj) : NI (w.alloc o) B n F := h.keep (Fr.alloc w o) (by simp)
theorem NI.drew (h : NI w B n F) : NI w.drew B n F := ⟨h.box, h.nb, h.si, h.re, h.pe, h.ri, h.rl, h.la, h.af, h.op, h.hr⟩
theorem NI.same (h : NI w B n F) (hs : Sm w w1) : NI w1 B n F := h.keep hs.fr (by simp)
theorem NI.mono (h : NI w B n F) {n' : Nat} (hn : n ≤ n') : NI w B n' F := ⟨h.box, h.nb.mono hn, h.si.mono hn, h.re.mono hn, h.pe.mono hn, h.ri.mono hn, h.rl.mono hn, h.la.mono hn, h.af.mono hn, h.op.mono hn, h.hr.mono hn⟩

theorem NC.set {cs : Array Value} (h : NC B cs) (j : Nat) (v : Value) (hj : j ≠ 0 ∧ j ≠ 28 ∧ j ≠ 1 ∧ j ≠ 2 ∧ j ≠ 3 ∧ j ≠ 4 ∧ j ≠ 5 ∧ j ≠ 6 ∧ j ≠ 10 ∧ j ≠ 11 ∧ j ≠ 50 ∧ j ≠ 64) : NC B (cs.setIfInBounds j v) := by
  obtain ⟨j0, j28, jnb, jsi, jre, jpe, jri, jrl, jla, jaf, jop, jhr⟩ := hj
  exact ⟨by simp [h.size], by rw [Array.getElem?_setIfInBounds_ne j0]; exact h.id, by rw [Array.getElem?_setIfInBounds_ne j28]; exact h.inst, by rw [Array.getElem?_setIfInBounds_ne jnb]; exact h.nb, by rw [Array.getElem?_setIfInBounds_ne jsi]; exact h.si, by rw [Array.getElem?_setIfInBounds_ne jre]; exact h.re, by rw [Array.getElem?_setIfInBounds_ne jpe]; exact h.pe, by rw [Array.getElem?_setIfInBounds_ne jri]; exact h.ri, by rw [Array.getElem?_setIfInBounds_ne jrl]; exact h.rl, by rw [Array.getElem?_setIfInBounds_ne jla]; exact h.la, by rw [Array.getElem?_setIfInBounds_ne jaf]; exact h.af, by rw [Array.getElem?_setIfInBounds_ne jop]; exact h.op, by rw [Array.getElem?_setIfInBounds_ne jhr]; exact h.hr⟩

/-- A plain field is written. -/
theorem NI.set (h : NI w B n F) (j : Nat) (v : Value) (hj : j ≠ 0 ∧ j ≠ 28 ∧ j ≠ 1 ∧ j ≠ 2 ∧ j ≠ 3 ∧ j ≠ 4 ∧ j ≠ 5 ∧ j ≠ 6 ∧ j ≠ 10 ∧ j ≠ 11 ∧ j ≠ 50 ∧ j ≠ 64) : NI (w.setCell ⟨B + 16, j, none⟩ v) B n F := by
  obtain ⟨cs, h1, h2⟩ := h.box
  exact ⟨⟨_, heap_setCell_same w (B + 16) j cs 94 v h1, h2.set j v hj⟩, h.nb.setCell (by show B + 1 ≠ B + 16; omega) _, h.si.setCell (by show B + 2 ≠ B + 16; omega) _, h.re.setCell (by show B + 3 ≠ B + 16; omega) _, h.pe.setCell (by show B + 4 ≠ B + 16; omega) _, h.ri.setCell (by show B + 5 ≠ B + 16; omega) _, h.rl.setCell (by show B + 6 ≠ B + 16; omega) _, h.la.setCell (by show B + 8 ≠ B + 16; omega) _, h.af.setCell (by show B + 9 ≠ B + 16; omega) _, h.op.setCell (by show B + 12 ≠ B + 16; omega) _, h.hr.setCell (by show B + 15 ≠ B + 16; omega) _⟩

theorem NI.w_nb (h : NI w B n F) {n' : Nat} {f' : ByteArray → Option Value} (hm : MapF Try.prog 9 w1 (B + 1) n' f') (hg : w.grownBy w1 (some (B + 1))) (hn : n ≤ n') : NI w1 B n' { F with nb := f' } := by
  have G : Fr w w1 [some (B + 1)] := Fr.of_grown hg (.inl (by simp))
  obtain ⟨cs, h1, h2⟩ := h.box
  exact ⟨⟨cs, by rw [G.block _ (lt_of_block h1) (by simp)]; exact h1, h2⟩, hm, (G.map h.si (by simp)).mono hn, (G.map h.re (by simp)).mono hn, (G.map h.pe (by simp)).mono hn, (G.map h.ri (by simp)).mono hn, (G.map h.rl (by simp)).mono hn, (G.map h.la (by simp)).mono hn, (G.map h.af (by simp)).mono hn, (G.map h.op (by simp)).mono hn, (G.map h.hr (by simp)).mono hn⟩

theorem NI.w_si (h : NI w B n F) {n' : Nat} {f' : ByteArray → Option Value} (hm : MapF Try.prog 9 w1 (B + 2) n' f') (hg : w.grownBy w1 (some (B + 2))) (hn : n ≤ n') : NI w1 B n' { F with si := f' } := by
  have G : Fr w w1 [some (B + 2)] := Fr.of_grown hg (.inl (by simp))
  obtain ⟨cs, h1, h2⟩ := h.box
  exact ⟨⟨cs, by rw [G.block _ (lt_of_block h1) (by simp)]; exact h1, h2⟩, (G.map h.nb (by simp)).mono hn, hm, (G.map h.re (by simp)).mono hn, (G.map h.pe (by simp)).mono hn, (G.map h.ri (by simp)).mono hn, (G.map h.rl (by simp)).mono hn, (G.map h.la (by simp)).mono hn, (G.map h.af (by simp)).mono hn, (G.map h.op (by simp)).mono hn, (G.map h.hr (by simp)).mono hn⟩

theorem NI.w_re (h : NI w B n F) {n' : Nat} {f' : ByteArray → Option Value} (hm : MapF Try.prog 9 w1 (B + 3) n' f') (hg : w.grownBy w1 (some (B + 3))) (hn : n ≤ n') : NI w1 B n' { F with re := f' } := by
  have G : Fr w w1 [some (B + 3)] := Fr.of_grown hg (.inl (by simp))
  obtain ⟨cs, h1, h2⟩ := h.box
  exact ⟨⟨cs, by rw [G.block _ (lt_of_block h1) (by simp)]; exact h1, h2⟩, (G.map h.nb (by simp)).mono hn, (G.map h.si (by simp)).mono hn, hm, (G.map h.pe (by simp)).mono hn, (G.map h.ri (by simp)).mono hn, (G.map h.rl (by simp)).mono hn, (G.map h.la (by simp)).mono hn, (G.map h.af (by simp)).mono hn, (G.map h.op (by simp)).mono hn, (G.map h.hr (by simp)).mono hn⟩

theorem NI.w_pe (h : NI w B n F) {n' : Nat} {f' : ByteArray → Option Value} (hm : MapF Try.prog 9 w1 (B + 4) n' f') (hg : w.grownBy w1 (some (B + 4))) (hn : n ≤ n') : NI w1 B n' { F with pe := f' } := by
  have G : Fr w w1 [some (B + 4)] := Fr.of_grown hg (.inl (by simp))
  obtain ⟨cs, h1, h2⟩ := h.box
  exact ⟨⟨cs, by rw [G.block _ (lt_of_block h1) (by simp)]; exact h1, h2⟩, (G.map h.nb (by simp)).mono hn, (G.map h.si (by simp)).mono hn, (G.map h.re (by simp)).mono hn, hm, (G.map h.ri (by simp)).mono hn, (G.map h.rl (by simp)).mono hn, (G.map h.la (by simp)).mono hn, (G.map h.af (by simp)).mono hn, (G.map h.op (by simp)).mono hn, (G.map h.hr (by simp)).mono hn⟩

theorem NI.w_ri (h : NI w B n F) {n' : Nat} {f' : ByteArray → Option Value} (hm : MapF Try.prog 9 w1 (B + 5) n' f') (hg : w.grownBy w1 (some (B + 5))) (hn : n ≤ n') : NI w1 B n' { F with ri := f' } := by
  have G : Fr w w1 [some (B + 5)] := Fr.of_grown hg (.inl (by simp))
  obtain ⟨cs, h1, h2⟩ := h.box
  exact ⟨⟨cs, by rw [G.block _ (lt_of_block h1) (by simp)]; exact h1, h2⟩, (G.map h.nb (by simp)).mono hn, (G.map h.si (by simp)).mono hn, (G.map h.re (by simp)).mono hn, (G.map h.pe (by simp)).mono hn, hm, (G.map h.rl (by simp)).mono hn, (G.map h.la (by simp)).mono hn, (G.map h.af (by simp)).mono hn, (G.map h.op (by simp)).mono hn, (G.map h.hr (by simp)).mono hn⟩

theorem NI.w_rl (h : NI w B n F) {n' : Nat} {f' : ByteArray → Option Value} (hm : MapF Try.prog 9 w1 (B + 6) n' f') (hg : w.grownBy w1 (some (B + 6))) (hn : n ≤ n') : NI w1 B n' { F with rl := f' } := by
  have G : Fr w w1 [some (B + 6)] := Fr.of_grown hg (.inl (by simp))
  obtain ⟨cs, h1, h2⟩ := h.box
  exact ⟨⟨cs, by rw [G.block _ (lt_of_block h1) (by simp)]; exact h1, h2⟩, (G.map h.nb (by simp)).mono hn, (G.map h.si (by simp)).mono hn, (G.map h.re (by simp)).mono hn, (G.map h.pe (by simp)).mono hn, (G.map h.ri (by simp)).mono hn, hm, (G.map h.la (by simp)).mono hn, (G.map h.af (by simp)).mono hn, (G.map h.op (by simp)).mono hn, (G.map h.hr (by simp)).mono hn⟩

theorem NI.w_la (h : NI w B n F) {n' : Nat} {f' : ByteArray → Option Value} (hm : MapF Try.prog 9 w1 (B + 8) n' f') (hg : w.grownBy w1 (some (B + 8))) (hn : n ≤ n') : NI w1 B n' { F with la := f' } := by
  have G : Fr w w1 [some (B + 8)] := Fr.of_grown hg (.inl (by simp))
  obtain ⟨cs, h1, h2⟩ := h.box
  exact ⟨⟨cs, by rw [G.block _ (lt_of_block h1) (by simp)]; exact h1, h2⟩, (G.map h.nb (by simp)).mono hn, (G.map h.si (by simp)).mono hn, (G.map h.re (by simp)).mono hn, (G.map h.pe (by simp)).mono hn, (G.map h.ri (by simp)).mono hn, (G.map h.rl (by simp)).mono hn, hm, (G.map h.af (by simp)).mono hn, (G.map h.op (by simp)).mono hn, (G.map h.hr (by simp)).mono hn⟩

theorem NI.w_af (h : NI w B n F) {n' : Nat} {f' : ByteArray → Option Value} (hm : MapF Try.prog 9 w1 (B + 9) n' f') (hg : w.grownBy w1 (some (B + 9))) (hn : n ≤ n') : NI w1 B n' { F with af := f' } := by
  have G : Fr w w1 [some (B + 9)] := Fr.of_grown hg (.inl (by simp))
  obtain ⟨cs, h1, h2⟩ := h.box
  exact ⟨⟨cs, by rw [G.block _ (lt_of_block h1) (by simp)]; exact h1, h2⟩, (G.map h.nb (by simp)).mono hn, (G.map h.si (by simp)).mono hn, (G.map h.re (by simp)).mono hn, (G.map h.pe (by simp)).mono hn, (G.map h.ri (by simp)).mono hn, (G.map h.rl (by simp)).mono hn, (G.map h.la (by simp)).mono hn, hm, (G.map h.op (by simp)).mono hn, (G.map h.hr (by simp)).mono hn⟩

theorem NI.w_op (h : NI w B n F) {n' : Nat} {f' : ByteArray → Option Value} (hm : MapF Try.prog 9 w1 (B + 12) n' f') (hg : w.grownBy w1 (some (B + 12))) (hn : n ≤ n') : NI w1 B n' { F with op := f' } := by
  have G : Fr w w1 [some (B + 12)] := Fr.of_grown hg (.inl (by simp))
  obtain ⟨cs, h1, h2⟩ := h.box
  exact ⟨⟨cs, by rw [G.block _ (lt_of_block h1) (by simp)]; exact h1, h2⟩, (G.map h.nb (by simp)).mono hn, (G.map h.si (by simp)).mono hn, (G.map h.re (by simp)).mono hn, (G.map h.pe (by simp)).mono hn, (G.map h.ri (by simp)).mono hn, (G.map h.rl (by simp)).mono hn, (G.map h.la (by simp)).mono hn, (G.map h.af (by simp)).mono hn, hm, (G.map h.hr (by simp)).mono hn⟩

theorem NI.w_hr (h : NI w B n F) {n' : Nat} {f' : ByteArray → Option Value} (hm : MapF Try.prog 9 w1 (B + 15) n' f') (hg : w.grownBy w1 (some (B + 15))) (hn : n ≤ n') : NI w1 B n' { F with hr := f' } := by
  have G : Fr w w1 [some (B + 15)] := Fr.of_grown hg (.inl (by simp))
  obtain ⟨cs, h1, h2⟩ := h.box
  exact ⟨⟨cs, by rw [G.block _ (lt_of_block h1) (by simp)]; exact h1, h2⟩, (G.map h.nb (by simp)).mono hn, (G.map h.si (by simp)).mono hn, (G.map h.re (by simp)).mono hn, (G.map h.pe (by simp)).mono hn, (G.map h.ri (by simp)).mono hn, (G.map h.rl (by simp)).mono hn, (G.map h.la (by simp)).mono hn, (G.map h.af (by simp)).mono hn, (G.map h.op (by simp)).mono hn, hm⟩
end
end Go.Proofs.Qxb6003797a
