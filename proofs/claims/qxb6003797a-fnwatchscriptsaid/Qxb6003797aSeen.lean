import Derived.Test.Qxb6003797aGraph
namespace Go.Proofs.Qxb6003797a
open Go.RowKit

/-- The place of s among the ids. -/
def ix (D : List ByteArray) (s : ByteArray) : Option Nat := D.findIdx? (fun x => decide (x = s))
/-- What the graph's map holds. -/
def fD (D : List ByteArray) : ByteArray → Option Value := fun s => (ix D s).map fun i => .int .i64 (i : Int)

theorem ix_none {D : List ByteArray} {s : ByteArray} (h : ∀ i (hi : i < D.length), D[i] ≠ s) : ix D s = none := by
  unfold ix
  rw [List.findIdx?_eq_none_iff]
  intro x hx
  obtain ⟨i, hi, rfl⟩ := List.getElem_of_mem hx
  simpa using h i hi

theorem ix_some {D : List ByteArray} {s : ByteArray} {j : Nat} (hj : j < D.length) (he : D[j] = s) (h : ∀ i (_ : i < j) (hi : i < D.length), D[i] ≠ s) : ix D s = some j := by
  unfold ix
  rw [List.findIdx?_eq_some_iff_getElem]
  exact ⟨hj, by simpa using he, fun i hij => by simpa using h i hij (by omega)⟩

theorem fD_nil : fD [] = fun _ => none := rfl

theorem fD_put {D : List ByteArray} {s : ByteArray} (h : ix D s = none) : putF (fD D) s (.int .i64 (D.length : Int)) = fD (D ++ [s]) := by
  funext x
  unfold putF fD ix
  rw [List.findIdx?_append]
  by_cases e : x = s
  · subst e
    have h' : List.findIdx? (fun y => decide (y = x)) D = none := h
    rw [h']
    simp
  · rw [if_neg e]
    have e2 : ¬ s = x := fun h => e h.symm
    simp [List.findIdx?_cons, e2]

theorem fD_none {D : List ByteArray} {s : ByteArray} (h : ix D s = none) : fD D s = none := by simp [fD, h]
theorem fD_some {D : List ByteArray} {s : ByteArray} {j : Nat} (h : ix D s = some j) : fD D s = some (.int .i64 (j : Int)) := by simp [fD, h]

/-- The same memory. -/
structure Sm (w w' : World) : Prop where
  os : w'.os = w.os
  tape : w'.tape = w.tape
  output : w'.output = w.output
  heap : w'.heap = w.heap

theorem Sm.refl (w : World) : Sm w w := ⟨rfl, rfl, rfl, rfl⟩
theorem Sm.trans {a b c : World} (h : Sm a b) (k : Sm b c) : Sm a c := ⟨k.os.trans h.os, k.tape.trans h.tape, k.output.trans h.output, k.heap.trans h.heap⟩
theorem Sm.drewN (w : World) (n : Nat) : Sm w (w.drewN n) := ⟨rfl, rfl, rfl, rfl⟩
theorem Sm.fr {w w' : World} (h : Sm w w') : Fr w w' [] := ⟨h.os, h.tape, h.output, by rw [h.heap]; exact Nat.le_refl _, fun k _ _ => by rw [h.heap]⟩
theorem Sm.below {w w' : World} (h : Sm w w') (B : Nat) : Below B w w' := ⟨h.os, h.tape, h.output, by rw [h.heap]; exact Nat.le_refl _, fun k _ => by rw [h.heap]⟩
theorem Sm.cell {w w' : World} (h : Sm w w') (a : Addr) : w'.cell? a = w.cell? a := World.cell?_of_block (by rw [h.heap])
theorem Sm.own {w w' : World} {B e sz n : Nat} {v : Value} {xs : List Value} (h : Sm w w') (ho : w.ownsRow B e sz v n xs) : w'.ownsRow B e sz v n xs := h.fr.own ho (.inr (by simp))
theorem Sm.gs {w w' : World} {base G M n : Nat} {f : ByteArray → Option Value} {vI vB vH vW : Value} {nI nB nH nW : Nat} {xI : List Value} (h : Sm w w') (g : GS w base G M n f vI vB vH vW nI nB nH nW xI) : GS w' base G M n f vI vB vH vW nI nB nH nW xI :=
  g.keep h.fr (by simp)

/-- THE LAW's OWN LOOP, behind k rounds: 'distinct' and the graph hold one list. -/
structure LI (w wr : World) (B0 base G M k : Nat) (D : List ByteArray) (vD vI vB vH vW : Value) : Prop where
  len : D.length ≤ k
  sz : ∀ s ∈ D, s.size ≤ maxLen
  d : wr.ownsRow base 9 1 vD D.length (D.map Value.string)
  g : GS wr base G M D.length (fD D) vI vB vH vW D.length D.length D.length D.length (D.map Value.string)
  ne : vD.ownBlock = none ∨ vD.ownBlock ≠ vI.ownBlock
  bel : Below B0 w wr
  hB : B0 ≤ G ∧ B0 ≤ M ∧ B0 ≤ base

theorem LI.same {w wr wx : World} {B0 base G M k : Nat} {D : List ByteArray} {vD vI vB vH vW : Value} (h : LI w wr B0 base G M k D vD vI vB vH vW) (hs : Sm wr wx) : LI w wx B0 base G M k D vD vI vB vH vW :=
  ⟨h.len, h.sz, hs.own h.d, hs.gs h.g, h.ne, h.bel.trans (hs.below _), h.hB⟩
theorem LI.next {w wr : World} {B0 base G M k : Nat} {D : List ByteArray} {vD vI vB vH vW : Value} (h : LI w wr B0 base G M k D vD vI vB vH vW) : LI w wr B0 base G M (k + 1) D vD vI vB vH vW :=
  ⟨by have := h.len; omega, h.sz, h.d, h.g, h.ne, h.bel, h.hB⟩

/-- 'distinct' has been appended to: the graph stands. -/
theorem LI.app {w wr w1 : World} {B0 base G M k : Nat} {D : List ByteArray} {vD vI vB vH vW : Value} (h : LI w wr B0 base G M k D vD vI vB vH vW) {o : Obj} {gD m cap : Nat} {ys : List Value} (hg : (wr.alloc o).grownBy w1 vD.ownBlock)
    (_ho : w1.ownsRow base 9 1 (.slice (some ⟨gD, 0, none⟩) m cap) m ys) (hl : vD.ownBlock = some gD ∨ gD = (wr.alloc o).heap.size) :
    GS w1 base G M D.length (fD D) vI vB vH vW D.length D.length D.length D.length (D.map Value.string) ∧ vI.ownBlock ≠ some gD ∧ Below B0 w w1 := by
  have hg0 := h.g.alloc o
  have F : Fr (wr.alloc o) w1 [vD.ownBlock] := Fr.of_grown hg (.inl (by simp))
  have hd := h.d.alloc o
  have sI : ∀ x, vD.ownBlock = some x → vI.ownBlock ≠ some x := fun x hx e => by
    rcases h.ne with e1 | e1
    · rw [e1] at hx; cases hx
    · exact e1 (hx.trans e.symm)
  have sT : ∀ (x : Nat) {e m : Nat} {v : Value} {xs : List Value}, vD.ownBlock = some x → (wr.alloc o).ownsRow base e 1 v m xs → e ≠ 9 → v.ownBlock ≠ some x := fun x {e m v xs} hx hv he e1 => by
    rcases own_ne hv hd he with e2 | e2
    · rw [e2] at e1; cases e1
    · exact e2 (e1.trans hx.symm)
  refine ⟨hg0.keep F ?_, ?_, ?_⟩
  · intro r hr
    obtain rfl := List.mem_singleton.1 hr
    cases e : vD.ownBlock with
    | none => exact .inl rfl
    | some x => exact .inr ⟨x, rfl, .inl ⟨(h.d.lt x e).1, sI x e, sT x e hg0.b (by decide), sT x e hg0.h (by decide), sT x e hg0.s (by decide)⟩⟩
  · rcases hl with e | e
    · exact sI gD e
    · exact sep_new hg0.i (by omega)
  · refine h.bel.trans (((Fr.alloc wr o).mono (by simp)).trans F (fun _ _ h => h) |>.below (Nat.le_trans h.hB.2.2 h.g.hb) ?_)
    intro x hx
    have := (h.d.lt x (List.mem_singleton.1 hx).symm).1
    have := h.hB.2.2
    omega

/-- The id is new to both: the loop's relation behind the round. -/
theorem LI.put {w wr w1 w2 : World} {B0 base G M k : Nat} {D : List ByteArray} {s : ByteArray} {vD vI vB vH vW vD' vI' vB' vH' vW' : Value} (h : LI w wr B0 base G M k D vD vI vB vH vW) (hs : s.size ≤ maxLen) (hx : ix D s = none)
    (hD : w1.ownsRow base 9 1 vD' (D.length + 1) (D.map Value.string ++ [.string s])) (h1 : GS w1 base G M D.length (fD D) vI vB vH vW D.length D.length D.length D.length (D.map Value.string)) (hne : vD'.ownBlock = none ∨ vD'.ownBlock ≠ vI.ownBlock) (hb1 : Below B0 w w1)
    (h2 : GS w2 base G M (D.length + 1) (putF (fD D) s (.int .i64 (D.length : Int))) vI' vB' vH' vW' (D.length + 1) (D.length + 1) (D.length + 1) (D.length + 1) (D.map Value.string ++ [.string s]))
    (hf : Fr w1 w2 (gR G M vI vB vH vW)) (hl : Lc w1 vI vI') : LI w w2 B0 base G M (k + 1) (D ++ [s]) vD' vI' vB' vH' vW' := by
  have e1 : (D ++ [s]).length = D.length + 1 := by simp
  have e2 : (D ++ [s]).map Value.string = D.map Value.string ++ [.string s] := by simp
  have hlow : ∀ x, x < base → vD'.ownBlock ≠ some x := fun x hx e => by have := (hD.lt x e).1; omega
  refine ⟨by rw [e1]; have := h.len; omega, ?_, ?_, ?_, ?_, ?_, h.hB⟩
  · intro x hx
    rcases List.mem_append.1 hx with hx | hx
    · exact h.sz x hx
    · rw [List.mem_singleton.1 hx]; exact hs
  · rw [e1, e2]
    refine hf.own hD ?_
    cases e : vD'.ownBlock with
    | none => exact .inl rfl
    | some x =>
      right
      rw [← e]
      intro hm
      simp only [gR, List.mem_cons, List.not_mem_nil, or_false] at hm
      rcases hm with hm | hm | hm | hm | hm | hm
      · exact hlow G h1.hG hm
      · exact hlow M h1.hM hm
      · rcases hne with e3 | e3
        · rw [e3] at e; cases e
        · exact e3 hm
      · rcases own_ne hD h1.b (by decide) with e3 | e3
        · rw [e3] at e; cases e
        · exact e3 hm
      · rcases own_ne hD h1.h (by decide) with e3 | e3
        · rw [e3] at e; cases e
        · exact e3 hm
      · rcases own_ne hD h1.s (by decide) with e3 | e3
        · rw [e3] at e; cases e
        · exact e3 hm
  · rw [e1, e2, ← fD_put hx]
    exact h2
  · cases e : vD'.ownBlock with
    | none => exact .inl rfl
    | some x =>
      right
      intro e3
      rcases hl with e4 | ⟨y, e4, hy⟩
      · rcases hne with e5 | e5
        · rw [e5] at e; cases e
        · exact e5 (e.trans (e3.trans e4))
      · rw [e4] at e3
        cases e3
        have := (hD.lt x e).2
        omega
  · refine hb1.trans (hf.below (Nat.le_trans h.hB.2.2 h1.hb) ?_)
    intro x hx
    simp only [gR, List.mem_cons, List.not_mem_nil, or_false, Option.some.injEq] at hx
    have hB := h.hB
    rcases hx with hx | hx | hx | hx | hx | hx
    · omega
    · omega
    · have := (h1.i.lt x hx.symm).1; omega
    · have := (h1.b.lt x hx.symm).1; omega
    · have := (h1.h.lt x hx.symm).1; omega
    · have := (h1.s.lt x hx.symm).1; omega
end Go.Proofs.Qxb6003797a
