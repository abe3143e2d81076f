import Derived.Test.Qxb6003797aBase
import Derived.Test.Qxb6003797aMapF
import Derived.Deep.AppendLies
namespace Go.Proofs.Qxb6003797a
open Go.RowKit

theorem info136 : (Try.prog.info? 136).map (fun i => (i.zero, i.size, i.bytes)) = some (some (.slice none 0 0), 1, 24) := by kernel_rfl
theorem info4 : (Try.prog.info? 4).map (fun i => (i.zero, i.size, i.bytes)) = some (some (.bool false), 1, 1) := by kernel_rfl
theorem zero3 (w : World) : (zeroValue 3).run Try.prog w = .ok (.int .i64 0) w := by kernel_rfl

/-- What may have turned between w and w': the blocks in R, and new ones. -/
structure Fr (w w' : World) (R : List (Option Nat)) : Prop where
  os : w'.os = w.os
  tape : w'.tape = w.tape
  output : w'.output = w.output
  size : w.heap.size ≤ w'.heap.size
  block : ∀ k, k < w.heap.size → some k ∉ R → w'.heap[k]? = w.heap[k]?

theorem Fr.refl (w : World) (R : List (Option Nat)) : Fr w w R := ⟨rfl, rfl, rfl, Nat.le_refl _, fun _ _ _ => rfl⟩
theorem Fr.trans {w w1 w2 : World} {R R' : List (Option Nat)} (h : Fr w w1 R) (h' : Fr w1 w2 R') (hs : ∀ k, k < w.heap.size → some k ∈ R' → some k ∈ R) : Fr w w2 R :=
  ⟨h'.os.trans h.os, h'.tape.trans h.tape, h'.output.trans h.output, Nat.le_trans h.size h'.size, fun k hk hn => (h'.block k (Nat.lt_of_lt_of_le hk h.size) (fun hm => hn (hs k hk hm))).trans (h.block k hk hn)⟩
theorem Fr.mono {w w1 : World} {R R' : List (Option Nat)} (h : Fr w w1 R) (hs : ∀ k, some k ∈ R → some k ∈ R') : Fr w w1 R' :=
  ⟨h.os, h.tape, h.output, h.size, fun k hk hn => h.block k hk (fun hm => hn (hs k hm))⟩
theorem Fr.of_grown {w w1 : World} {row : Option Nat} {R : List (Option Nat)} (h : w.grownBy w1 row) (hr : row ∈ R ∨ row = none) : Fr w w1 R :=
  ⟨h.os, h.tape, h.output, h.size, fun k hk hn => h.block k hk (fun e => by
    rcases hr with hr | hr
    · exact hn (e ▸ hr)
    · rw [hr] at e; cases e)⟩
theorem Fr.below {w w1 : World} {R : List (Option Nat)} {B : Nat} (h : Fr w w1 R) (hB : B ≤ w.heap.size) (hR : ∀ k, some k ∈ R → B ≤ k) : Below B w w1 :=
  ⟨h.os, h.tape, h.output, h.size, fun k hk => h.block k (Nat.lt_of_lt_of_le hk hB) (fun hm => by have := hR k hm; omega)⟩
theorem Fr.own {w w1 : World} {R : List (Option Nat)} {B e sz n : Nat} {v : Value} {xs : List Value} (h : Fr w w1 R) (ho : w.ownsRow B e sz v n xs) (hne : v.ownBlock = none ∨ v.ownBlock ∉ R) : w1.ownsRow B e sz v n xs := by
  refine ⟨ho.1, ?_⟩
  rcases ho.2 with h2 | ⟨g, cap, cur, rfl, hb, hg, r⟩
  · exact .inl h2
  · rcases hne with hne | hne
    · simp [Value.ownBlock] at hne
    · exact .inr ⟨g, cap, cur, rfl, hb, by rw [h.block g (lt_of_block hg) hne]; exact hg, r⟩
theorem Fr.map {w w1 : World} {R : List (Option Nat)} {P : Program} {k b n : Nat} {f : ByteArray → Option Value} (h : Fr w w1 R) (hm : MapF P k w b n f) (hne : some b ∉ R) : MapF P k w1 b n f :=
  hm.of_block (h.block b hm.lt hne)

theorem Fr.setCell (w : World) (a : Addr) (v : Value) : Fr w (w.setCell a v) [some a.block] :=
  ⟨rfl, rfl, rfl, by simp, fun k _ hn => heap_setCell_other w a k v (by intro e; exact hn (by simp [e]))⟩

/-- Two rows of different element types lie in different blocks. -/
theorem own_ne {w : World} {B B' e e' sz sz' n n' : Nat} {v v' : Value} {xs xs' : List Value} (h : w.ownsRow B e sz v n xs) (h' : w.ownsRow B' e' sz' v' n' xs') (hne : e ≠ e') : v.ownBlock = none ∨ v.ownBlock ≠ v'.ownBlock := by
  rcases h.2 with ⟨rfl, _⟩ | ⟨g, cap, cur, rfl, _, hg, _⟩
  · exact .inl rfl
  · rcases h'.2 with ⟨rfl, _⟩ | ⟨g', cap', cur', rfl, _, hg', _⟩
    · right; simp [Value.ownBlock]
    · right
      intro e1
      have e2 : g = g' := by simpa [Value.ownBlock] using e1
      subst e2
      rw [hg] at hg'
      simp at hg'
      exact hne hg'.2

/-- v' lies where v lay, or in a new block. -/
def Lc (w : World) (v v' : Value) : Prop := v'.ownBlock = v.ownBlock ∨ ∃ k, v'.ownBlock = some k ∧ w.heap.size ≤ k

/-- THE GRAPH IN MEMORY: its box, its map, its four rows. -/
structure GS (w : World) (base G M n : Nat) (f : ByteArray → Option Value) (vI vB vH vW : Value) (nI nB nH nW : Nat) (xI : List Value) : Prop where
  g : w.heap[G]? = some (.cells #[.map (some M), vI, vB, vH, vW] 69 (0, 0))
  m : MapF Try.prog 9 w M n f
  i : w.ownsRow base 9 1 vI nI xI
  b : w.ownsRow base 136 1 vB nB (List.replicate nB (.slice none 0 0))
  h : w.ownsRow base 136 1 vH nH (List.replicate nH (.slice none 0 0))
  s : w.ownsRow base 4 1 vW nW (List.replicate nW (.bool false))
  ne : vB.ownBlock = none ∨ vB.ownBlock ≠ vH.ownBlock
  hG : G < base
  hM : M < base
  hb : base ≤ w.heap.size

section
variable {w w1 : World} {base G M n : Nat} {f : ByteArray → Option Value} {vI vB vH vW : Value} {nI nB nH nW : Nat} {xI : List Value}

/-- The blocks that the graph lies in. -/
def gR (G M : Nat) (vI vB vH vW : Value) : List (Option Nat) := [some G, some M, vI.ownBlock, vB.ownBlock, vH.ownBlock, vW.ownBlock]

theorem GS.base_le (_h : GS w base G M n f vI vB vH vW nI nB nH nW xI) {v : Value} {e m : Nat} {xs : List Value} (ho : w.ownsRow base e 1 v m xs) : ∀ k, v.ownBlock = some k → base ≤ k ∧ k < w.heap.size := ho.lt

/-- Nothing of it has turned. -/
theorem GS.keep {R : List (Option Nat)} (h : GS w base G M n f vI vB vH vW nI nB nH nW xI) (hf : Fr w w1 R) (hR : ∀ r ∈ R, r = none ∨ ∃ k, r = some k ∧ ((base ≤ k ∧ vI.ownBlock ≠ some k ∧ vB.ownBlock ≠ some k ∧ vH.ownBlock ≠ some k ∧ vW.ownBlock ≠ some k) ∨ w.heap.size ≤ k)) :
    GS w1 base G M n f vI vB vH vW nI nB nH nW xI := by
  have hlow : ∀ k, k < base → some k ∉ R := fun k hk hm => by
    rcases hR _ hm with e | ⟨k', e, h1 | h1⟩
    · cases e
    · cases e; omega
    · cases e; have := h.hb; omega
  have hown : ∀ v : Value, (v = vI ∨ v = vB ∨ v = vH ∨ v = vW) → (∀ k, v.ownBlock = some k → base ≤ k ∧ k < w.heap.size) → v.ownBlock = none ∨ v.ownBlock ∉ R := fun v hv hl => by
    cases e : v.ownBlock with
    | none => exact .inl rfl
    | some k =>
      right
      intro hm
      rcases hR _ hm with e' | ⟨k', e', h1 | h1⟩
      · cases e'
      · cases e'
        rcases hv with rfl | rfl | rfl | rfl
        · exact h1.2.1 e
        · exact h1.2.2.1 e
        · exact h1.2.2.2.1 e
        · exact h1.2.2.2.2 e
      · cases e'; have := (hl k e).2; omega
  refine ⟨?_, hf.map h.m (hlow M h.hM), hf.own h.i (hown _ (.inl rfl) h.i.lt), hf.own h.b (hown _ (.inr (.inl rfl)) h.b.lt), hf.own h.h (hown _ (.inr (.inr (.inl rfl))) h.h.lt), hf.own h.s (hown _ (.inr (.inr (.inr rfl))) h.s.lt), h.ne, h.hG, h.hM, Nat.le_trans h.hb hf.size⟩
  rw [hf.block G (lt_of_block h.g) (hlow G h.hG)]
  exact h.g

theorem GS.alloc (h : GS w base G M n f vI vB vH vW nI nB nH nW xI) (o : Obj) : GS (w.alloc o) base G M n f vI vB vH vW nI nB nH nW xI :=
  h.keep (Fr.of_grown (R := []) (World.grownBy_alloc w o none) (.inr rfl)) (by simp)
theorem GS.drew (h : GS w base G M n f vI vB vH vW nI nB nH nW xI) : GS w.drew base G M n f vI vB vH vW nI nB nH nW xI := ⟨h.g, h.m, h.i, h.b, h.h, h.s, h.ne, h.hG, h.hM, h.hb⟩

theorem GS.neMG (h : GS w base G M n f vI vB vH vW nI nB nH nW xI) : M ≠ G := h.m.ne_row h.g

theorem GS.low_I (h : GS w base G M n f vI vB vH vW nI nB nH nW xI) {k : Nat} (hk : k < base) : vI.ownBlock ≠ some k := fun e => by have := (h.i.lt k e).1; omega
theorem GS.low_B (h : GS w base G M n f vI vB vH vW nI nB nH nW xI) {k : Nat} (hk : k < base) : vB.ownBlock ≠ some k := fun e => by have := (h.b.lt k e).1; omega
theorem GS.low_H (h : GS w base G M n f vI vB vH vW nI nB nH nW xI) {k : Nat} (hk : k < base) : vH.ownBlock ≠ some k := fun e => by have := (h.h.lt k e).1; omega
theorem GS.low_W (h : GS w base G M n f vI vB vH vW nI nB nH nW xI) {k : Nat} (hk : k < base) : vW.ownBlock ≠ some k := fun e => by have := (h.s.lt k e).1; omega

/-- The map has been written. -/
theorem GS.mapped {n' : Nat} {f' : ByteArray → Option Value} (h : GS w base G M n f vI vB vH vW nI nB nH nW xI) (hm : MapF Try.prog 9 w1 M n' f') (hg : w.grownBy w1 (some M)) : GS w1 base G M n' f' vI vB vH vW nI nB nH nW xI := by
  have F : Fr w w1 [some M] := Fr.of_grown hg (.inl (by simp))
  refine ⟨?_, hm, F.own h.i ?_, F.own h.b ?_, F.own h.h ?_, F.own h.s ?_, h.ne, h.hG, h.hM, Nat.le_trans h.hb hg.size⟩
  · rw [F.block G (lt_of_block h.g) (by simp; exact fun e => h.neMG e.symm)]; exact h.g
  · right; simp; exact h.low_I h.hM
  · right; simp; exact h.low_B h.hM
  · right; simp; exact h.low_H h.hM
  · right; simp; exact h.low_W h.hM
end
end Go.Proofs.Qxb6003797a
