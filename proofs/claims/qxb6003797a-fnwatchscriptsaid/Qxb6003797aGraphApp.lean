import Derived.Test.Qxb6003797aGraphInv
namespace Go.Proofs.Qxb6003797a
open Go.RowKit

section
variable {w w1 : World} {base G M n : Nat} {f : ByteArray → Option Value} {vI vB vH vW : Value} {nI nB nH nW : Nat} {xI : List Value}

theorem sep_new {w : World} {v : Value} {B e m : Nat} {xs : List Value} (ho : w.ownsRow B e 1 v m xs) {k : Nat} (hk : w.heap.size ≤ k) : v.ownBlock ≠ some k := fun e => by have := (ho.lt k e).2; omega

/-- A cell of the box is written. -/
theorem GS.boxed {w : World} {cs cs' : Array Value} (hG : w.heap[G]? = some (.cells cs 69 (0, 0))) (j : Nat) (v : Value) (he : cs.setIfInBounds j v = cs') : (w.setCell ⟨G, j, none⟩ v).heap[G]? = some (.cells cs' 69 (0, 0)) := by
  rw [heap_setCell_same w G j cs 69 v hG, he]

theorem own_set {w : World} {B e m : Nat} {v : Value} {xs : List Value} (ho : w.ownsRow B e 1 v m xs) {k j : Nat} (hk : k < B) (u : Value) : (w.setCell ⟨k, j, none⟩ u).ownsRow B e 1 v m xs :=
  (Fr.setCell w ⟨k, j, none⟩ u).own ho (.inr (by simp; intro e; have := (ho.lt k e).1; omega))

theorem GS.appI (h : GS w base G M n f vI vB vH vW nI nB nH nW xI) {m cap g' : Nat} {ys : List Value} (hg : w.grownBy w1 vI.ownBlock) (ho : w1.ownsRow base 9 1 (.slice (some ⟨g', 0, none⟩) m cap) m ys) (_hl : vI.ownBlock = some g' ∨ g' = w.heap.size) :
    GS (w1.setCell ⟨G, 1, none⟩ (.slice (some ⟨g', 0, none⟩) m cap)) base G M n f (.slice (some ⟨g', 0, none⟩) m cap) vB vH vW m nB nH nW ys := by
  have F : Fr w w1 [vI.ownBlock] := Fr.of_grown hg (.inl (by simp))
  have hlow : ∀ k, k < base → some k ∉ [vI.ownBlock] := fun k hk hm => h.low_I hk (by simpa using (List.mem_singleton.1 hm).symm)
  have gb : w1.heap[G]? = _ := (F.block G (lt_of_block h.g) (hlow G h.hG)).trans h.g
  have mm := F.map h.m (hlow M h.hM)
  refine ⟨GS.boxed gb 1 _ rfl, mm.setCell h.neMG _, own_set ho h.hG _, own_set (F.own h.b ?_) h.hG _, own_set (F.own h.h ?_) h.hG _, own_set (F.own h.s ?_) h.hG _, h.ne, h.hG, h.hM, ?_⟩
  · rcases own_ne h.b h.i (by decide) with e | e
    · exact .inl e
    · exact .inr (by simpa using e)
  · rcases own_ne h.h h.i (by decide) with e | e
    · exact .inl e
    · exact .inr (by simpa using e)
  · rcases own_ne h.s h.i (by decide) with e | e
    · exact .inl e
    · exact .inr (by simpa using e)
  · have := hg.size; have := h.hb; simp; omega

theorem GS.appW (h : GS w base G M n f vI vB vH vW nI nB nH nW xI) {m cap g' : Nat} (hg : w.grownBy w1 vW.ownBlock) (ho : w1.ownsRow base 4 1 (.slice (some ⟨g', 0, none⟩) m cap) m (List.replicate m (.bool false))) (_hl : vW.ownBlock = some g' ∨ g' = w.heap.size) :
    GS (w1.setCell ⟨G, 4, none⟩ (.slice (some ⟨g', 0, none⟩) m cap)) base G M n f vI vB vH (.slice (some ⟨g', 0, none⟩) m cap) nI nB nH m xI := by
  have F : Fr w w1 [vW.ownBlock] := Fr.of_grown hg (.inl (by simp))
  have hlow : ∀ k, k < base → some k ∉ [vW.ownBlock] := fun k hk hm => h.low_W hk (by simpa using (List.mem_singleton.1 hm).symm)
  have gb : w1.heap[G]? = _ := (F.block G (lt_of_block h.g) (hlow G h.hG)).trans h.g
  have mm := F.map h.m (hlow M h.hM)
  refine ⟨GS.boxed gb 4 _ rfl, mm.setCell h.neMG _, own_set (F.own h.i ?_) h.hG _, own_set (F.own h.b ?_) h.hG _, own_set (F.own h.h ?_) h.hG _, own_set ho h.hG _, h.ne, h.hG, h.hM, ?_⟩
  · rcases own_ne h.i h.s (by decide) with e | e
    · exact .inl e
    · exact .inr (by simpa using e)
  · rcases own_ne h.b h.s (by decide) with e | e
    · exact .inl e
    · exact .inr (by simpa using e)
  · rcases own_ne h.h h.s (by decide) with e | e
    · exact .inl e
    · exact .inr (by simpa using e)
  · have := hg.size; have := h.hb; simp; omega

/-- Two appends, the one behind the other, blocks laid ahead of each; then the two stores. -/
theorem GS.appBH {wa0 wa wb0 wb : World} (h : GS w base G M n f vI vB vH vW nI nB nH nW xI) {mB capB gB mH capH gH : Nat}
    (f0 : Fr w wa0 []) (hgB : wa0.grownBy wa vB.ownBlock) (hoB : wa.ownsRow base 136 1 (.slice (some ⟨gB, 0, none⟩) mB capB) mB (List.replicate mB (.slice none 0 0))) (hlB : vB.ownBlock = some gB ∨ w.heap.size ≤ gB)
    (f1 : Fr wa wb0 []) (hgH : wb0.grownBy wb vH.ownBlock) (hoH : wb.ownsRow base 136 1 (.slice (some ⟨gH, 0, none⟩) mH capH) mH (List.replicate mH (.slice none 0 0))) (hlH : vH.ownBlock = some gH ∨ wa.heap.size ≤ gH) :
    GS ((wb.setCell ⟨G, 2, none⟩ (.slice (some ⟨gB, 0, none⟩) mB capB)).setCell ⟨G, 3, none⟩ (.slice (some ⟨gH, 0, none⟩) mH capH)) base G M n f vI (.slice (some ⟨gB, 0, none⟩) mB capB) (.slice (some ⟨gH, 0, none⟩) mH capH) vW nI mB mH nW xI := by
  have F1 : Fr w wa [vB.ownBlock] := (f0.mono (by simp)).trans (Fr.of_grown (R := [vB.ownBlock]) hgB (.inl (by simp))) (fun _ _ h => h)
  have F2 : Fr wa wb [vH.ownBlock] := (f1.mono (by simp)).trans (Fr.of_grown (R := [vH.ownBlock]) hgH (.inl (by simp))) (fun _ _ h => h)
  have F : Fr w wb [vB.ownBlock, vH.ownBlock] := (F1.mono (fun _ h => by simp at h ⊢; exact .inl h)).trans F2 (fun _ _ h => by simp at h ⊢; exact .inr h)
  have hlow : ∀ k, k < base → some k ∉ [vB.ownBlock, vH.ownBlock] := fun k hk hm => by
    simp at hm
    rcases hm with hm | hm
    · exact h.low_B hk hm.symm
    · exact h.low_H hk hm.symm
  have gb : wb.heap[G]? = _ := (F.block G (lt_of_block h.g) (hlow G h.hG)).trans h.g
  have mm := F.map h.m (hlow M h.hM)
  have hHlt : ∀ k, vH.ownBlock = some k → base ≤ k ∧ k < w.heap.size := h.h.lt
  have neBH : (Value.slice (some ⟨gB, 0, none⟩) mB capB).ownBlock ∉ [vH.ownBlock] := by
    simp [Value.ownBlock]
    intro e
    rcases hlB with hl | hl
    · rcases h.ne with e2 | e2
      · rw [e2] at hl; cases hl
      · exact e2 (hl.trans e)
    · have := (hHlt gB e.symm).2; omega
  have oB : wb.ownsRow base 136 1 (.slice (some ⟨gB, 0, none⟩) mB capB) mB (List.replicate mB (.slice none 0 0)) := F2.own hoB (.inr neBH)
  have keepRow : ∀ {e m : Nat} {v : Value} {xs : List Value}, w.ownsRow base e 1 v m xs → e ≠ 136 → wb.ownsRow base e 1 v m xs := fun {e m v xs} ho hne => by
    refine F.own ho ?_
    rcases own_ne ho h.b hne with e1 | e1
    · exact .inl e1
    · rcases own_ne ho h.h hne with e2 | e2
      · exact .inl e2
      · exact .inr (by simp; exact ⟨e1, e2⟩)
  refine ⟨GS.boxed (GS.boxed gb 2 _ rfl) 3 _ rfl, (mm.setCell h.neMG _).setCell h.neMG _, own_set (own_set (keepRow h.i (by decide)) h.hG _) h.hG _, own_set (own_set oB h.hG _) h.hG _, own_set (own_set hoH h.hG _) h.hG _, own_set (own_set (keepRow h.s (by decide)) h.hG _) h.hG _, .inr ?_, h.hG, h.hM, ?_⟩
  · simp only [Value.ownBlock]
    intro e
    have e1 : gB = gH := by simpa using e
    subst e1
    rcases hlH with hl | hl
    · exact neBH (List.mem_singleton.2 hl.symm)
    · have := (hoB.lt gB rfl).2; omega
  · have := F.size; have := h.hb; simp; omega

theorem Fr.alloc (w : World) (o : Obj) : Fr w (w.alloc o) [] := Fr.of_grown (World.grownBy_alloc w o none) (.inr rfl)
theorem Fr.alloc2 (w : World) (o o' : Obj) : Fr w ((w.alloc o).alloc o') [] := (Fr.alloc w o).trans (Fr.alloc _ o') (fun _ _ h => h)

theorem GS.keepH (h : GS w base G M n f vI vB vH vW nI nB nH nW xI) (hg : w.grownBy w1 vB.ownBlock) : w1.ownsRow base 136 1 vH nH (List.replicate nH (.slice none 0 0)) := by
  refine (Fr.of_grown (R := [vB.ownBlock]) hg (.inl (by simp))).own h.h ?_
  rcases h.ne with e | e
  · cases e2 : vH.ownBlock with
    | none => exact .inl rfl
    | some k => right; rw [e]; simp
  · right
    intro hm
    exact e (List.mem_singleton.1 hm).symm

/-- What an append and the store behind it have turned. -/
theorem Fr_app1 {v : Value} {j : Nat} {u : Value} (hg : w.grownBy w1 v.ownBlock) : Fr w (w1.setCell ⟨G, j, none⟩ u) [v.ownBlock, some G] :=
  ((Fr.of_grown (R := [v.ownBlock]) hg (.inl (by simp))).mono (fun _ h => by simp at h ⊢; exact .inl h)).trans (Fr.setCell w1 ⟨G, j, none⟩ u) (fun _ _ h => by simp at h ⊢; exact .inr h)

theorem Fr_appBH {vB vH u u' : Value} {wa0 wa wb0 wb : World} (f0 : Fr w wa0 []) (hgB : wa0.grownBy wa vB.ownBlock) (f1 : Fr wa wb0 []) (hgH : wb0.grownBy wb vH.ownBlock) :
    Fr w ((wb.setCell ⟨G, 2, none⟩ u).setCell ⟨G, 3, none⟩ u') [vB.ownBlock, vH.ownBlock, some G] := by
  have F1 : Fr w wa [vB.ownBlock] := (f0.mono (by simp)).trans (Fr.of_grown (R := [vB.ownBlock]) hgB (.inl (by simp))) (fun _ _ h => h)
  have F2 : Fr wa wb [vH.ownBlock] := (f1.mono (by simp)).trans (Fr.of_grown (R := [vH.ownBlock]) hgH (.inl (by simp))) (fun _ _ h => h)
  have F3 : Fr wb ((wb.setCell ⟨G, 2, none⟩ u).setCell ⟨G, 3, none⟩ u') [some G] := (Fr.setCell wb ⟨G, 2, none⟩ u).trans (Fr.setCell _ ⟨G, 3, none⟩ u') (fun _ _ h => h)
  exact ((F1.mono (fun _ h => by simp at h ⊢; exact .inl h)).trans F2 (fun _ _ h => by simp at h ⊢; exact .inr (.inl h))).trans F3 (fun _ _ h => by simp at h ⊢; exact .inr (.inr h))

/-- All that 'node' turns where it lays a new id. -/
theorem Fr_node {w w1 w2 W V w5 : World} {vI vB vH vW uI uW : Value} {oI oW : Obj} (hg1 : w.grownBy w1 (some M)) (hgI : (w1.alloc oI).grownBy w2 vI.ownBlock) (hW : W = w2.setCell ⟨G, 1, none⟩ uI)
    (F4 : Fr W.drew V [vB.ownBlock, vH.ownBlock, some G]) (hgW : (V.alloc oW).grownBy w5 vW.ownBlock) : Fr w (w5.setCell ⟨G, 4, none⟩ uW) (gR G M vI vB vH vW) := by
  subst hW
  have F1 : Fr w w1 (gR G M vI vB vH vW) := Fr.of_grown hg1 (.inl (by simp [gR]))
  have F2 : Fr w1 (w2.setCell ⟨G, 1, none⟩ uI) (gR G M vI vB vH vW) := ((Fr.alloc w1 oI).mono (by simp)).trans ((Fr_app1 hgI).mono (R' := gR G M vI vB vH vW) (fun k h => by simp [gR] at h ⊢; rcases h with h | h <;> simp [h])) (fun _ _ h => h)
  have F4' : Fr (w2.setCell ⟨G, 1, none⟩ uI) V (gR G M vI vB vH vW) := by
    have := F4.mono (R' := gR G M vI vB vH vW) (fun k h => by simp [gR] at h ⊢; rcases h with h | h | h <;> simp [h])
    exact ⟨this.os, this.tape, this.output, this.size, this.block⟩
  have F5 : Fr V (w5.setCell ⟨G, 4, none⟩ uW) (gR G M vI vB vH vW) := ((Fr.alloc V oW).mono (by simp)).trans ((Fr_app1 hgW).mono (R' := gR G M vI vB vH vW) (fun k h => by simp [gR] at h ⊢; rcases h with h | h <;> simp [h])) (fun _ _ h => h)
  exact ((F1.trans F2 (fun _ _ h => h)).trans F4' (fun _ _ h => h)).trans F5 (fun _ _ h => h)
end
end Go.Proofs.Qxb6003797a
