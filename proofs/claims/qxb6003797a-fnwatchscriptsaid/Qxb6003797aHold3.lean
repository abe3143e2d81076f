import Derived.Test.Qxb6003797aOps
namespace Go.Proofs.Qxb6003797a
open Go.RowKit

theorem wpList_loadB {T : TypeId} {ops : Array Oper} {rest : List Oper} {o : Oper} {a : Act} {w : World} {Q : Exit → Act → World → Prop} {cs : Array Value} {t : TypeId} {fr : Nat × Nat} (x : Operand) (hgd : o.guard = none) (ho : o.op = Op.load T x)
    (hT : (Try.prog.underlying T).map TypeDesc.isRow = some true) (hi : (Try.prog.info? T).map (·.size) = some cs.size) (b : Nat) (hx : a.eval x = .pointer (some ⟨b, 0, none⟩)) (hb : w.heap[b]? = some (.cells cs t fr))
    (h : wpList Try.prog ops Q rest (a.put o.dst (.agg cs)) w) : wpList Try.prog ops Q (o :: rest) a w := by
  refine wpList_plain hgd fun K hK => ?_
  unfold Oper.wp
  rw [run_loadB hT hi ho hx hb]
  exact hK _ _ h

def Z96 : Array Value := #[.int .i64 0, .int .u64 0, .int .u64 0, .bool false]
theorem zero96 (w : World) : (zeroValue 96).run Try.prog w = .ok (.agg Z96) w := by kernel_rfl
theorem alloc96 (w : World) : (Instr.alloc 96 true (.tuple #[])).run Try.prog w = .ok (.pointer (some ⟨w.heap.size, 0, none⟩)) (w.alloc (.cells Z96 96)) := by kernel_rfl

theorem run_look {T e : TypeId} {ρ : Operand → Value} {o : Oper} {m x : Operand} {b n : Nat} {f : ByteArray → Option Value} {w : World} {z : Value} {s : ByteArray} (ht : Try.prog.underlying T = some (.map 9 e)) (hz : (zeroValue e).run Try.prog w = .ok z w) (ho : o.op = Op.lookup T m x true)
    (hm : ρ m = .map (some b)) (hx : ρ x = .string s) (hM : MapF Try.prog 9 w b n f) (hs : s.size ≤ maxLen) (hv : f s = none) : (execOp ρ o).run Try.prog w = .ok (.value (.tuple #[z, .bool false])) w := by
  simp [execOp, ho, hm, hx, (hM.look_none Try.underlying9 ht hz hs hv).1, Result.andThen]

theorem Fr.keepB {w w1 : World} {R : List (Option Nat)} {b : Nat} {o : Obj} (h : Fr w w1 R) (hb : w.heap[b]? = some o) (hR : some b ∉ R) : w1.heap[b]? = some o := (h.block b (lt_of_block hb) hR).trans hb
theorem below_block {w w1 : World} {B b : Nat} {o : Obj} (h : Below B w w1) (hb : w.heap[b]? = some o) (hB : b < B) : w1.heap[b]? = some o := (h.block b hB).trans hb
theorem below_fr {w w1 : World} (h : Below w.heap.size w w1) : Fr w w1 [] := ⟨h.os, h.tape, h.output, h.size, fun k hk _ => h.block k hk⟩

/-- What 'hold' comes to. -/
def HoldPost (w : World) (B n : Nat) (F : NF) (o : ByteArray) (R : Array Value) (L : List ByteArray) (e : Ending) (w' : World) : Prop :=
  e = .returned (.tuple #[]) ∧ ∃ f', NI w' B (n + 3 + L.length) { F with re := putF F.re o (.agg R), pe := putF F.pe o (.bool true), hr := f' } ∧ f' o ≠ none ∧ (∀ s ∈ L, f' s ≠ none) ∧ Fr w w' [some (B + 16), some (B + 15), some (B + 3), some (B + 4)]

set_option maxRecDepth 100000 in
set_option maxHeartbeats 3200000 in
theorem hold_core (w : World) (B n : Nat) (F : NF) (h : NI w B n F) (o : ByteArray) (L : List ByteArray) (C R : Array Value) (nr : Bool) (hn : n ≤ 1000) (ho : o.size ≤ maxLen) (hnb : F.nb o = none)
    (hCs : (Try.prog.info? 83).map (·.size) = some C.size) (hRs : (Try.prog.info? 83).map (·.size) = some R.size) (hR0 : R[0]? = some (.string o)) (hR1 : R.all (·.oneCell') = true) (hCR : nr = false → C = R)
    (H48 : ∀ w, Calls Try.prog 48 #[.agg C] w fun e w' => e = .returned (.bool nr) ∧ Below w.heap.size w w')
    (H54 : ∀ w, Calls Try.prog 54 #[.agg C] w fun e w' => e = .returned (.agg R) ∧ Below w.heap.size w w')
    (H55 : ∀ (w1 : World) (F1 : NF), NI w1 B (n + 2) F1 → Fr w w1 [some (B + 16), some (B + 15), some (B + 3), some (B + 4)] → Calls Try.prog 55 #[.pointer (some ⟨B + 16, 0, none⟩), .agg R] w1 fun e w' => e = .returned (.tuple #[]) ∧ ∃ f', NI w' B (n + 2 + 1 + L.length) { F1 with hr := f' } ∧ f' o ≠ none ∧ (∀ s ∈ L, f' s ≠ none) ∧ Fr w1 w' [some (B + 16), some (B + 15)]) :
    Calls Try.prog 47 #[.pointer (some ⟨B + 16, 0, none⟩), .agg C] w (HoldPost w B n F o R L) := by
  have hlt := h.lt
  have hbC : (w.alloc (.cells C 83)).heap[w.heap.size]? = some (.cells C 83 (0, 0)) := heap_alloc_new _ _
  cases nr with
  | true =>
    go_enter Try.func47, Try.ntmps47
    go_wp2_with (refine wpList_loadB (.tmp 3) rfl rfl (by kernel_rfl) hCs w.heap.size rfl hbC ?_)
    refine (H48 _).mono ?_
    rintro e w1 ⟨rfl, hb1⟩
    have hb1C : w1.heap[w.heap.size]? = some (.cells C 83 (0, 0)) := below_block hb1 hbC (by simp)
    go_wp2_with (refine wpList_loadB (.tmp 3) rfl rfl (by kernel_rfl) hCs w.heap.size rfl hb1C ?_)
    refine (H54 _).mono ?_
    rintro e w2 ⟨rfl, hb2⟩
    have hb2C : w2.heap[w.heap.size]? = some (.cells C 83 (0, 0)) := below_block hb2 hb1C (lt_of_block hb1C)
    have hCR2 : C.size = R.size := by rw [hCs] at hRs; simpa using hRs
    have hF2 : Fr w w2 [] := ((Fr.alloc w _).trans (below_fr hb1) (fun _ _ h => h)).trans (below_fr hb2) (fun _ _ h => h)
    go_upto_region 3 with (refine wpList_store_block rfl 83 (.tmp 3) (.tmp 9) rfl w.heap.size R C 83 rfl rfl hb2C hCR2 hRs hR1 ?_; intro w3 hb3 hg3)
    have hF3 : Fr w w3 [] := hF2.trans (Fr.of_grown (R := [some w.heap.size]) hg3 (.inl (by simp))) (fun k hk hm => by have e := List.mem_singleton.1 hm; have e2 : k = w.heap.size := (by simpa using e); omega)
    clear hb2C hCR2 hF2 hb1 hb2 hg3 hb1C hbC
    simp only [Act.put]
    have hN3 := h.keep hF3 (by simp)
    have b0 : w.heap.size < w3.heap.size := lt_of_block hb3
    have o3 : w3.cell? ⟨w.heap.size, 0, none⟩ = some (.string o) := by rw [cell_of_row _ _ _ _ _ _ hb3]; exact hR0
    refine wp_region_late (z := 7) (S := fun w' => w'.cell? ⟨B + 16, 3, none⟩ = some (.map (some (B + 3))) ∧ w'.cell? ⟨w.heap.size, 0, none⟩ = some (.string o) ∧ w'.heap[w.heap.size]? = some (.cells R 83 (0, 0))) (by kernel_rfl) ?_
    change wpAnyL _ _ _ _ _ _ _ _ _ w3.drew
    have hS : (fun w' : World => w'.cell? ⟨B + 16, 3, none⟩ = some (.map (some (B + 3))) ∧ w'.cell? ⟨w.heap.size, 0, none⟩ = some (.string o) ∧ w'.heap[w.heap.size]? = some (.cells R 83 (0, 0))) w3.drew := ⟨hN3.c_re, o3, hb3⟩
    refine wpAnyL_takeW (i := 0) (v := .pointer (some ⟨B + 16, 0, none⟩)) (some 10) rfl (by kernel_rfl) (by kernel_rfl) (by kernel_rfl) (by kernel_rfl) (by decide) (fun _ _ _ h => h) (.inl ⟨by kernel_rfl, fun _ => by kernel_rfl⟩) (fun _ => hS) ?_
    refine wpAnyL_takeW (i := 1) (v := .pointer (some ⟨B + 16, 0, none⟩)) (some 11) rfl (by kernel_rfl) (by kernel_rfl) (by kernel_rfl) (by kernel_rfl) (by decide) (fun _ _ _ h => h) (.inl ⟨by kernel_rfl, fun _ => by kernel_rfl⟩) (fun _ => hS) ?_
    refine wpAnyL_takeW (i := 2) (v := .pointer (some ⟨B + 16, 3, none⟩)) (some 12) rfl (by kernel_rfl) (by kernel_rfl) (by kernel_rfl) (by kernel_rfl) (by decide) (fun _ _ _ h => h) (.inl ⟨by kernel_rfl, fun _ => by kernel_rfl⟩) (fun _ => hS) ?_
    refine wpAnyL_takeR (i := 3) (v := .map (some (B + 3))) (some 13) rfl (by kernel_rfl) (by kernel_rfl) (by kernel_rfl) (by kernel_rfl) (by kernel_rfl) (by decide) (by kernel_rfl) (fun _ _ _ h => h) (.inl ⟨by kernel_rfl, fun _ hx => run_load1 (T := 86) (x := .tmp 12) (b := B + 16) (j := 3) (by kernel_rfl) (by kernel_rfl) (by kernel_rfl) hx.1⟩) hS ?_
    refine wpAnyL_takeW (i := 4) (v := .pointer (some ⟨w.heap.size, 0, none⟩)) (some 14) rfl (by kernel_rfl) (by kernel_rfl) (by kernel_rfl) (by kernel_rfl) (by decide) (fun _ _ _ h => h) (.inl ⟨by kernel_rfl, fun _ => by kernel_rfl⟩) (fun _ => hS) ?_
    refine wpAnyL_takeR (i := 5) (v := .string o) (some 15) rfl (by kernel_rfl) (by kernel_rfl) (by kernel_rfl) (by kernel_rfl) (by kernel_rfl) (by decide) (by kernel_rfl) (fun _ _ _ h => h) (.inl ⟨by kernel_rfl, fun _ hx => run_load1 (T := 9) (x := .tmp 14) (b := w.heap.size) (j := 0) (by kernel_rfl) (by kernel_rfl) (by kernel_rfl) hx.2.1⟩) hS ?_
    refine wpAnyL_takeR (i := 6) (v := .agg R) (some 16) rfl (by kernel_rfl) (by kernel_rfl) (by kernel_rfl) (by kernel_rfl) (by kernel_rfl) (by decide) (by kernel_rfl) (fun _ _ _ h => h) (.inl ⟨by kernel_rfl, fun _ hx => run_loadB (T := 83) (x := .tmp 3) (b := w.heap.size) (by kernel_rfl) hRs (by kernel_rfl) (by kernel_rfl) hx.2.2⟩) hS ?_
    refine wpAnyL_all (rs := [7]) (by kernel_rfl) (by simp) ?_
    intro i hi
    obtain rfl : i = 7 := by simpa using hi
    refine op_put (T := 86) (e := 83) (.tmp 13) (.tmp 15) (.tmp 16) (B + 3) n F.re o (.agg R) rfl (by kernel_rfl) (by kernel_rfl) (by kernel_rfl) Try.underlying86 (by kernel_rfl) (by kernel_rfl) (by kernel_rfl) hN3.drew.re (by unfold maxLen; omega) ho ?_
    intro w4 hm4 hg4
    refine ⟨fun hz => (hz rfl).elim, ?_⟩
    refine wpAnyL_done (by kernel_rfl) ?_ _
    have hN4 := hN3.drew.w_re hm4 hg4 (by omega)
    have hF4 : Fr w w4 [some (B + 16), some (B + 15), some (B + 3), some (B + 4)] := (hF3.mono (by simp)).trans (Fr.undrew (Fr.of_grown (R := [some (B + 16), some (B + 15), some (B + 3), some (B + 4)]) hg4 (.inl (by simp)))) (fun _ _ h => h)
    have hb4 : w4.heap[w.heap.size]? = some (.cells R 83 (0, 0)) := (hg4.block w.heap.size b0 (by simp; omega)).trans hb3
    have o4 : w4.cell? ⟨w.heap.size, 0, none⟩ = some (.string o) := by rw [cell_of_row _ _ _ _ _ _ hb4]; exact hR0
    have p4 := hN4.c_pe
    clear hS hm4 hg4 hF3 hb3 o3
    simp only [Act.put, List.setIfInBounds_toArray, List.set_cons_succ, List.set_cons_zero]
    obtain ⟨w5, hrun5, hm5, hg5⟩ := hN4.drew.pe.update (P := Try.prog) (t := 87) (e := 4) Try.underlying9 Try.underlying87 (by unfold maxLen; omega) ho (.bool true)
    go_wp2_with fail
    go_region
    have hN5 := hN4.drew.w_pe hm5 hg5 (by omega)
    have hF5 : Fr w w5 [some (B + 16), some (B + 15), some (B + 3), some (B + 4)] := hF4.trans (Fr.undrew (Fr.of_grown (R := [some (B + 16), some (B + 15), some (B + 3), some (B + 4)]) hg5 (.inl (by simp)))) (fun _ _ h => h)
    have hb5 : w5.heap[w.heap.size]? = some (.cells R 83 (0, 0)) := (hg5.block w.heap.size (lt_of_block hb4) (by simp; omega)).trans hb4
    clear hrun5 hm5 hg5 hF4 hb4 o4 p4
    go_wp2_with (refine wpList_loadB (.tmp 3) rfl rfl (by kernel_rfl) hRs w.heap.size rfl hb5 ?_)
    refine (H55 _ _ hN5 hF5).mono ?_
    rintro e w6 ⟨rfl, f6, hN6, ho6, hl6, hF6⟩
    have hb6 : w6.heap[w.heap.size]? = some (.cells R 83 (0, 0)) := hF6.keepB hb5 (by simp; omega)
    obtain ⟨u63, d63⟩ := hN6.there 63 (by omega)
    have f63 := hN6.fz 63
    have hN7 := hN6.set 63 (.bool true) (by decide)
    have hb7 : (w6.setCell ⟨B + 16, 63, none⟩ (.bool true)).heap[w.heap.size]? = some (.cells R 83 (0, 0)) := (heap_setCell_other w6 _ _ _ (by show w.heap.size ≠ B + 16; omega)).trans hb6
    have hF7 : Fr w (w6.setCell ⟨B + 16, 63, none⟩ (.bool true)) [some (B + 16), some (B + 15), some (B + 3), some (B + 4)] := (hF5.trans (hF6.mono (fun k h => by simp at h ⊢; rcases h with h | h <;> simp [h])) (fun _ _ h => h)).trans ((Fr.setCell w6 ⟨B + 16, 63, none⟩ (.bool true)).mono (fun k h => by simp at h ⊢; simp [h])) (fun _ _ h => h)
    clear hN6 hb6 hF5 hF6 hN5 hb5
    go_wp2_with fail
    generalize w6.setCell ⟨B + 16, 63, none⟩ (.bool true) = w7 at hN7 hb7 hF7 ⊢
    have o7 : w7.cell? ⟨w.heap.size, 0, none⟩ = some (.string o) := by rw [cell_of_row _ _ _ _ _ _ hb7]; exact hR0
    refine wp_region_late (z := 11) (S := fun w' => w'.cell? ⟨B + 16, 1, none⟩ = some (.map (some (B + 1))) ∧ w'.cell? ⟨w.heap.size, 0, none⟩ = some (.string o) ∧ MapF Try.prog 9 w' (B + 1) (n + 2 + 1 + L.length) F.nb) (by kernel_rfl) ?_
    change wpAnyL _ _ _ _ _ _ _ _ _ w7.drew
    have hS : (fun w' : World => w'.cell? ⟨B + 16, 1, none⟩ = some (.map (some (B + 1))) ∧ w'.cell? ⟨w.heap.size, 0, none⟩ = some (.string o) ∧ MapF Try.prog 9 w' (B + 1) (n + 2 + 1 + L.length) F.nb) w7.drew := ⟨hN7.c_nb, o7, hN7.nb⟩
    refine wpAnyL_takeW (i := 0) (v := .pointer (some ⟨B + 16, 0, none⟩)) (some 30) rfl (by kernel_rfl) (by kernel_rfl) (by kernel_rfl) (by kernel_rfl) (by decide) (fun _ _ _ h => h) (.inl ⟨by kernel_rfl, fun _ => by kernel_rfl⟩) (fun _ => hS) ?_
    refine wpAnyL_takeW (i := 1) (v := .pointer (some ⟨B + 16, 0, none⟩)) (some 31) rfl (by kernel_rfl) (by kernel_rfl) (by kernel_rfl) (by kernel_rfl) (by decide) (fun _ _ _ h => h) (.inl ⟨by kernel_rfl, fun _ => by kernel_rfl⟩) (fun _ => hS) ?_
    refine wpAnyL_takeW (i := 2) (v := .pointer (some ⟨B + 16, 1, none⟩)) (some 32) rfl (by kernel_rfl) (by kernel_rfl) (by kernel_rfl) (by kernel_rfl) (by decide) (fun _ _ _ h => h) (.inl ⟨by kernel_rfl, fun _ => by kernel_rfl⟩) (fun _ => hS) ?_
    refine wpAnyL_takeR (i := 3) (v := .map (some (B + 1))) (some 33) rfl (by kernel_rfl) (by kernel_rfl) (by kernel_rfl) (by kernel_rfl) (by kernel_rfl) (by decide) (by kernel_rfl) (fun _ _ _ h => h) (.inl ⟨by kernel_rfl, fun _ hx => run_load1 (T := 84) (x := .tmp 32) (b := B + 16) (j := 1) (by kernel_rfl) (by kernel_rfl) (by kernel_rfl) hx.1⟩) hS ?_
    refine wpAnyL_takeW (i := 4) (v := .pointer (some ⟨w.heap.size, 0, none⟩)) (some 34) rfl (by kernel_rfl) (by kernel_rfl) (by kernel_rfl) (by kernel_rfl) (by decide) (fun _ _ _ h => h) (.inl ⟨by kernel_rfl, fun _ => by kernel_rfl⟩) (fun _ => hS) ?_
    refine wpAnyL_takeR (i := 5) (v := .string o) (some 35) rfl (by kernel_rfl) (by kernel_rfl) (by kernel_rfl) (by kernel_rfl) (by kernel_rfl) (by decide) (by kernel_rfl) (fun _ _ _ h => h) (.inl ⟨by kernel_rfl, fun _ hx => run_load1 (T := 9) (x := .tmp 34) (b := w.heap.size) (j := 0) (by kernel_rfl) (by kernel_rfl) (by kernel_rfl) hx.2.1⟩) hS ?_
    refine wpAnyL_takeR (i := 6) (v := .tuple #[.agg Z96, .bool false]) (some 36) rfl (by kernel_rfl) (by kernel_rfl) (by kernel_rfl) (by kernel_rfl) (by kernel_rfl) (by decide) (by kernel_rfl) (fun _ _ _ h => h) (.inl ⟨by kernel_rfl, fun _ hx => run_look (T := 84) (e := 96) (m := .tmp 33) (x := .tmp 35) (b := B + 1) Try.underlying84 (zero96 _) (by kernel_rfl) (by kernel_rfl) (by kernel_rfl) hx.2.2 ho hnb⟩) hS ?_
    refine wpAnyL_takeW (i := 7) (v := .tuple #[.agg Z96, .bool false]) (some 29) rfl (by kernel_rfl) (by kernel_rfl) (by kernel_rfl) (by kernel_rfl) (by decide) (fun _ _ _ h => h) (.inl ⟨by kernel_rfl, fun _ => by kernel_rfl⟩) (fun _ => hS) ?_
    refine wpAnyL_takeW (i := 8) (v := .agg Z96) (some 37) rfl (by kernel_rfl) (by kernel_rfl) (by kernel_rfl) (by kernel_rfl) (by decide) (fun _ _ _ h => h) (.inl ⟨by kernel_rfl, fun _ => by kernel_rfl⟩) (fun _ => hS) ?_
    refine wpAnyL_takeW (i := 9) (v := .bool false) (some 38) rfl (by kernel_rfl) (by kernel_rfl) (by kernel_rfl) (by kernel_rfl) (by decide) (fun _ _ _ h => h) (.inl ⟨by kernel_rfl, fun _ => by kernel_rfl⟩) (fun _ => hS) ?_
    refine wpAnyL_all (rs := [10]) (by kernel_rfl) (by simp) ?_
    intro i hi
    obtain rfl : i = 10 := by simpa using hi
    refine op_alloc 96 Z96 (some 4) rfl (by kernel_rfl) (by kernel_rfl) (by kernel_rfl) (alloc96 _) ⟨fun _ _ => ⟨(hN7.drew.alloc _).c_nb, (World.cell?_alloc_past _ _ 0 (lt_of_block hb7)).trans o7, (hN7.drew.alloc _).nb⟩, ?_⟩
    refine wpAnyL_all (rs := [11]) (by kernel_rfl) (by simp) ?_
    intro i hi
    obtain rfl : i = 11 := by simpa using hi
    refine op_storeB (T := 96) (.tmp 4) (.tmp 37) w7.drew.heap.size Z96 Z96 96 rfl (by kernel_rfl) (by kernel_rfl) (by kernel_rfl) (by kernel_rfl) (by kernel_rfl) (heap_alloc_new _ _) rfl (by kernel_rfl) (by kernel_rfl) ?_
    intro w8 hb8 hg8
    refine ⟨fun hz => (hz rfl).elim, ?_⟩
    refine wpAnyL_takeW (i := 12) (v := .bool false) (some 5) rfl (by kernel_rfl) (by kernel_rfl) (by kernel_rfl) (by kernel_rfl) (by decide) (fun _ _ _ h => h) (.inl ⟨by kernel_rfl, fun _ => by kernel_rfl⟩) (fun h => absurd (h.symm.trans (show _ = true by kernel_rfl)) (by decide)) ?_
    refine wpAnyL_done (by kernel_rfl) ?_ _
    have hN8 : NI w8 B _ _ := (hN7.drew.alloc _).keep (Fr.of_grown (R := [some w7.drew.heap.size]) hg8 (.inl (by simp))) (fun k h1 h2 hm => by have e := List.mem_singleton.1 hm; have := hN7.lt; have e2 : k = w7.heap.size := (by simpa using e); omega)
    have hF8 : Fr w w8 [some (B + 16), some (B + 15), some (B + 3), some (B + 4)] := hF7.trans (Fr.undrew ((Fr.alloc _ _).trans (Fr.of_grown (R := [some w7.drew.heap.size]) hg8 (.inl (by simp))) (fun k hk hm => by have e := List.mem_singleton.1 hm; have e2 : k = w7.drew.heap.size := (by simpa using e); omega))) (fun k _ h => by simp at h)
    clear hS hb8 hg8 hN7 hb7 hF7 o7
    simp only [Act.put, List.setIfInBounds_toArray, List.set_cons_succ, List.set_cons_zero]
    go_wp2
    go_end0
    exact ⟨rfl, f6, hN8, ho6, hl6, hF8⟩
  | false =>
    obtain rfl := hCR rfl
    go_enter Try.func47, Try.ntmps47
    go_wp2_with (refine wpList_loadB (.tmp 3) rfl rfl (by kernel_rfl) hCs w.heap.size rfl hbC ?_)
    refine (H48 _).mono ?_
    rintro e w3 ⟨rfl, hb1⟩
    have hb3 : w3.heap[w.heap.size]? = some (.cells C 83 (0, 0)) := below_block hb1 hbC (by simp)
    have hF3 : Fr w w3 [] := (Fr.alloc w _).trans (below_fr hb1) (fun _ _ h => h)
    clear hb1 hbC
    go_upto_region 3 with fail
    have hN3 := h.keep hF3 (by simp)
    have b0 : w.heap.size < w3.heap.size := lt_of_block hb3
    have o3 : w3.cell? ⟨w.heap.size, 0, none⟩ = some (.string o) := by rw [cell_of_row _ _ _ _ _ _ hb3]; exact hR0
    refine wp_region_late (z := 7) (S := fun w' => w'.cell? ⟨B + 16, 3, none⟩ = some (.map (some (B + 3))) ∧ w'.cell? ⟨w.heap.size, 0, none⟩ = some (.string o) ∧ w'.heap[w.heap.size]? = some (.cells C 83 (0, 0))) (by kernel_rfl) ?_
    change wpAnyL _ _ _ _ _ _ _ _ _ w3.drew
    have hS : (fun w' : World => w'.cell? ⟨B + 16, 3, none⟩ = some (.map (some (B + 3))) ∧ w'.cell? ⟨w.heap.size, 0, none⟩ = some (.string o) ∧ w'.heap[w.heap.size]? = some (.cells C 83 (0, 0))) w3.drew := ⟨hN3.c_re, o3, hb3⟩
    refine wpAnyL_takeW (i := 0) (v := .pointer (some ⟨B + 16, 0, none⟩)) (some 10) rfl (by kernel_rfl) (by kernel_rfl) (by kernel_rfl) (by kernel_rfl) (by decide) (fun _ _ _ h => h) (.inl ⟨by kernel_rfl, fun _ => by kernel_rfl⟩) (fun _ => hS) ?_
    refine wpAnyL_takeW (i := 1) (v := .pointer (some ⟨B + 16, 0, none⟩)) (some 11) rfl (by kernel_rfl) (by kernel_rfl) (by kernel_rfl) (by kernel_rfl) (by decide) (fun _ _ _ h => h) (.inl ⟨by kernel_rfl, fun _ => by kernel_rfl⟩) (fun _ => hS) ?_
    refine wpAnyL_takeW (i := 2) (v := .pointer (some ⟨B + 16, 3, none⟩)) (some 12) rfl (by kernel_rfl) (by kernel_rfl) (by kernel_rfl) (by kernel_rfl) (by decide) (fun _ _ _ h => h) (.inl ⟨by kernel_rfl, fun _ => by kernel_rfl⟩) (fun _ => hS) ?_
    refine wpAnyL_takeR (i := 3) (v := .map (some (B + 3))) (some 13) rfl (by kernel_rfl) (by kernel_rfl) (by kernel_rfl) (by kernel_rfl) (by kernel_rfl) (by decide) (by kernel_rfl) (fun _ _ _ h => h) (.inl ⟨by kernel_rfl, fun _ hx => run_load1 (T := 86) (x := .tmp 12) (b := B + 16) (j := 3) (by kernel_rfl) (by kernel_rfl) (by kernel_rfl) hx.1⟩) hS ?_
    refine wpAnyL_takeW (i := 4) (v := .pointer (some ⟨w.heap.size, 0, none⟩)) (some 14) rfl (by kernel_rfl) (by kernel_rfl) (by kernel_rfl) (by kernel_rfl) (by decide) (fun _ _ _ h => h) (.inl ⟨by kernel_rfl, fun _ => by kernel_rfl⟩) (fun _ => hS) ?_
    refine wpAnyL_takeR (i := 5) (v := .string o) (some 15) rfl (by kernel_rfl) (by kernel_rfl) (by kernel_rfl) (by kernel_rfl) (by kernel_rfl) (by decide) (by kernel_rfl) (fun _ _ _ h => h) (.inl ⟨by kernel_rfl, fun _ hx => run_load1 (T := 9) (x := .tmp 14) (b := w.heap.size) (j := 0) (by kernel_rfl) (by kernel_rfl) (by kernel_rfl) hx.2.1⟩) hS ?_
    refine wpAnyL_takeR (i := 6) (v := .agg C) (some 16) rfl (by kernel_rfl) (by kernel_rfl) (by kernel_rfl) (by kernel_rfl) (by kernel_rfl) (by decide) (by kernel_rfl) (fun _ _ _ h => h) (.inl ⟨by kernel_rfl, fun _ hx => run_loadB (T := 83) (x := .tmp 3) (b := w.heap.size) (by kernel_rfl) hRs (by kernel_rfl) (by kernel_rfl) hx.2.2⟩) hS ?_
    refine wpAnyL_all (rs := [7]) (by kernel_rfl) (by simp) ?_
    intro i hi
    obtain rfl : i = 7 := by simpa using hi
    refine op_put (T := 86) (e := 83) (.tmp 13) (.tmp 15) (.tmp 16) (B + 3) n F.re o (.agg C) rfl (by kernel_rfl) (by kernel_rfl) (by kernel_rfl) Try.underlying86 (by kernel_rfl) (by kernel_rfl) (by kernel_rfl) hN3.drew.re (by unfold maxLen; omega) ho ?_
    intro w4 hm4 hg4
    refine ⟨fun hz => (hz rfl).elim, ?_⟩
    refine wpAnyL_done (by kernel_rfl) ?_ _
    have hN4 := hN3.drew.w_re hm4 hg4 (by omega)
    have hF4 : Fr w w4 [some (B + 16), some (B + 15), some (B + 3), some (B + 4)] := (hF3.mono (by simp)).trans (Fr.undrew (Fr.of_grown (R := [some (B + 16), some (B + 15), some (B + 3), some (B + 4)]) hg4 (.inl (by simp)))) (fun _ _ h => h)
    have hb4 : w4.heap[w.heap.size]? = some (.cells C 83 (0, 0)) := (hg4.block w.heap.size b0 (by simp; omega)).trans hb3
    have o4 : w4.cell? ⟨w.heap.size, 0, none⟩ = some (.string o) := by rw [cell_of_row _ _ _ _ _ _ hb4]; exact hR0
    have p4 := hN4.c_pe
    clear hS hm4 hg4 hF3 hb3 o3
    simp only [Act.put, List.setIfInBounds_toArray, List.set_cons_succ, List.set_cons_zero]
    obtain ⟨w5, hrun5, hm5, hg5⟩ := hN4.drew.pe.update (P := Try.prog) (t := 87) (e := 4) Try.underlying9 Try.underlying87 (by unfold maxLen; omega) ho (.bool true)
    go_wp2_with fail
    go_region
    have hN5 := hN4.drew.w_pe hm5 hg5 (by omega)
    have hF5 : Fr w w5 [some (B + 16), some (B + 15), some (B + 3), some (B + 4)] := hF4.trans (Fr.undrew (Fr.of_grown (R := [some (B + 16), some (B + 15), some (B + 3), some (B + 4)]) hg5 (.inl (by simp)))) (fun _ _ h => h)
    have hb5 : w5.heap[w.heap.size]? = some (.cells C 83 (0, 0)) := (hg5.block w.heap.size (lt_of_block hb4) (by simp; omega)).trans hb4
    clear hrun5 hm5 hg5 hF4 hb4 o4 p4
    go_wp2_with (refine wpList_loadB (.tmp 3) rfl rfl (by kernel_rfl) hRs w.heap.size rfl hb5 ?_)
    refine (H55 _ _ hN5 hF5).mono ?_
    rintro e w6 ⟨rfl, f6, hN6, ho6, hl6, hF6⟩
    have hb6 : w6.heap[w.heap.size]? = some (.cells C 83 (0, 0)) := hF6.keepB hb5 (by simp; omega)
    obtain ⟨u63, d63⟩ := hN6.there 63 (by omega)
    have f63 := hN6.fz 63
    have hN7 := hN6.set 63 (.bool true) (by decide)
    have hb7 : (w6.setCell ⟨B + 16, 63, none⟩ (.bool true)).heap[w.heap.size]? = some (.cells C 83 (0, 0)) := (heap_setCell_other w6 _ _ _ (by show w.heap.size ≠ B + 16; omega)).trans hb6
    have hF7 : Fr w (w6.setCell ⟨B + 16, 63, none⟩ (.bool true)) [some (B + 16), some (B + 15), some (B + 3), some (B + 4)] := (hF5.trans (hF6.mono (fun k h => by simp at h ⊢; rcases h with h | h <;> simp [h])) (fun _ _ h => h)).trans ((Fr.setCell w6 ⟨B + 16, 63, none⟩ (.bool true)).mono (fun k h => by simp at h ⊢; simp [h])) (fun _ _ h => h)
    clear hN6 hb6 hF5 hF6 hN5 hb5
    go_wp2_with fail
    generalize w6.setCell ⟨B + 16, 63, none⟩ (.bool true) = w7 at hN7 hb7 hF7 ⊢
    have o7 : w7.cell? ⟨w.heap.size, 0, none⟩ = some (.string o) := by rw [cell_of_row _ _ _ _ _ _ hb7]; exact hR0
    refine wp_region_late (z := 11) (S := fun w' => w'.cell? ⟨B + 16, 1, none⟩ = some (.map (some (B + 1))) ∧ w'.cell? ⟨w.heap.size, 0, none⟩ = some (.string o) ∧ MapF Try.prog 9 w' (B + 1) (n + 2 + 1 + L.length) F.nb) (by kernel_rfl) ?_
    change wpAnyL _ _ _ _ _ _ _ _ _ w7.drew
    have hS : (fun w' : World => w'.cell? ⟨B + 16, 1, none⟩ = some (.map (some (B + 1))) ∧ w'.cell? ⟨w.heap.size, 0, none⟩ = some (.string o) ∧ MapF Try.prog 9 w' (B + 1) (n + 2 + 1 + L.length) F.nb) w7.drew := ⟨hN7.c_nb, o7, hN7.nb⟩
    refine wpAnyL_takeW (i := 0) (v := .pointer (some ⟨B + 16, 0, none⟩)) (some 30) rfl (by kernel_rfl) (by kernel_rfl) (by kernel_rfl) (by kernel_rfl) (by decide) (fun _ _ _ h => h) (.inl ⟨by kernel_rfl, fun _ => by kernel_rfl⟩) (fun _ => hS) ?_
    refine wpAnyL_takeW (i := 1) (v := .pointer (some ⟨B + 16, 0, none⟩)) (some 31) rfl (by kernel_rfl) (by kernel_rfl) (by kernel_rfl) (by kernel_rfl) (by decide) (fun _ _ _ h => h) (.inl ⟨by kernel_rfl, fun _ => by kernel_rfl⟩) (fun _ => hS) ?_
    refine wpAnyL_takeW (i := 2) (v := .pointer (some ⟨B + 16, 1, none⟩)) (some 32) rfl (by kernel_rfl) (by kernel_rfl) (by kernel_rfl) (by kernel_rfl) (by decide) (fun _ _ _ h => h) (.inl ⟨by kernel_rfl, fun _ => by kernel_rfl⟩) (fun _ => hS) ?_
    refine wpAnyL_takeR (i := 3) (v := .map (some (B + 1))) (some 33) rfl (by kernel_rfl) (by kernel_rfl) (by kernel_rfl) (by kernel_rfl) (by kernel_rfl) (by decide) (by kernel_rfl) (fun _ _ _ h => h) (.inl ⟨by kernel_rfl, fun _ hx => run_load1 (T := 84) (x := .tmp 32) (b := B + 16) (j := 1) (by kernel_rfl) (by kernel_rfl) (by kernel_rfl) hx.1⟩) hS ?_
    refine wpAnyL_takeW (i := 4) (v := .pointer (some ⟨w.heap.size, 0, none⟩)) (some 34) rfl (by kernel_rfl) (by kernel_rfl) (by kernel_rfl) (by kernel_rfl) (by decide) (fun _ _ _ h => h) (.inl ⟨by kernel_rfl, fun _ => by kernel_rfl⟩) (fun _ => hS) ?_
    refine wpAnyL_takeR (i := 5) (v := .string o) (some 35) rfl (by kernel_rfl) (by kernel_rfl) (by kernel_rfl) (by kernel_rfl) (by kernel_rfl) (by decide) (by kernel_rfl) (fun _ _ _ h => h) (.inl ⟨by kernel_rfl, fun _ hx => run_load1 (T := 9) (x := .tmp 34) (b := w.heap.size) (j := 0) (by kernel_rfl) (by kernel_rfl) (by kernel_rfl) hx.2.1⟩) hS ?_
    refine wpAnyL_takeR (i := 6) (v := .tuple #[.agg Z96, .bool false]) (some 36) rfl (by kernel_rfl) (by kernel_rfl) (by kernel_rfl) (by kernel_rfl) (by kernel_rfl) (by decide) (by kernel_rfl) (fun _ _ _ h => h) (.inl ⟨by kernel_rfl, fun _ hx => run_look (T := 84) (e := 96) (m := .tmp 33) (x := .tmp 35) (b := B + 1) Try.underlying84 (zero96 _) (by kernel_rfl) (by kernel_rfl) (by kernel_rfl) hx.2.2 ho hnb⟩) hS ?_
    refine wpAnyL_takeW (i := 7) (v := .tuple #[.agg Z96, .bool false]) (some 29) rfl (by kernel_rfl) (by kernel_rfl) (by kernel_rfl) (by kernel_rfl) (by decide) (fun _ _ _ h => h) (.inl ⟨by kernel_rfl, fun _ => by kernel_rfl⟩) (fun _ => hS) ?_
    refine wpAnyL_takeW (i := 8) (v := .agg Z96) (some 37) rfl (by kernel_rfl) (by kernel_rfl) (by kernel_rfl) (by kernel_rfl) (by decide) (fun _ _ _ h => h) (.inl ⟨by kernel_rfl, fun _ => by kernel_rfl⟩) (fun _ => hS) ?_
    refine wpAnyL_takeW (i := 9) (v := .bool false) (some 38) rfl (by kernel_rfl) (by kernel_rfl) (by kernel_rfl) (by kernel_rfl) (by decide) (fun _ _ _ h => h) (.inl ⟨by kernel_rfl, fun _ => by kernel_rfl⟩) (fun _ => hS) ?_
    refine wpAnyL_all (rs := [10]) (by kernel_rfl) (by simp) ?_
    intro i hi
    obtain rfl : i = 10 := by simpa using hi
    refine op_alloc 96 Z96 (some 4) rfl (by kernel_rfl) (by kernel_rfl) (by kernel_rfl) (alloc96 _) ⟨fun _ _ => ⟨(hN7.drew.alloc _).c_nb, (World.cell?_alloc_past _ _ 0 (lt_of_block hb7)).trans o7, (hN7.drew.alloc _).nb⟩, ?_⟩
    refine wpAnyL_all (rs := [11]) (by kernel_rfl) (by simp) ?_
    intro i hi
    obtain rfl : i = 11 := by simpa using hi
    refine op_storeB (T := 96) (.tmp 4) (.tmp 37) w7.drew.heap.size Z96 Z96 96 rfl (by kernel_rfl) (by kernel_rfl) (by kernel_rfl) (by kernel_rfl) (by kernel_rfl) (heap_alloc_new _ _) rfl (by kernel_rfl) (by kernel_rfl) ?_
    intro w8 hb8 hg8
    refine ⟨fun hz => (hz rfl).elim, ?_⟩
    refine wpAnyL_takeW (i := 12) (v := .bool false) (some 5) rfl (by kernel_rfl) (by kernel_rfl) (by kernel_rfl) (by kernel_rfl) (by decide) (fun _ _ _ h => h) (.inl ⟨by kernel_rfl, fun _ => by kernel_rfl⟩) (fun h => absurd (h.symm.trans (show _ = true by kernel_rfl)) (by decide)) ?_
    refine wpAnyL_done (by kernel_rfl) ?_ _
    have hN8 : NI w8 B _ _ := (hN7.drew.alloc _).keep (Fr.of_grown (R := [some w7.drew.heap.size]) hg8 (.inl (by simp))) (fun k h1 h2 hm => by have e := List.mem_singleton.1 hm; have := hN7.lt; have e2 : k = w7.heap.size := (by simpa using e); omega)
    have hF8 : Fr w w8 [some (B + 16), some (B + 15), some (B + 3), some (B + 4)] := hF7.trans (Fr.undrew ((Fr.alloc _ _).trans (Fr.of_grown (R := [some w7.drew.heap.size]) hg8 (.inl (by simp))) (fun k hk hm => by have e := List.mem_singleton.1 hm; have e2 : k = w7.drew.heap.size := (by simpa using e); omega))) (fun k _ h => by simp at h)
    clear hS hb8 hg8 hN7 hb7 hF7 o7
    simp only [Act.put, List.setIfInBounds_toArray, List.set_cons_succ, List.set_cons_zero]
    go_wp2
    go_end0
    exact ⟨rfl, f6, hN8, ho6, hl6, hF8⟩
end Go.Proofs.Qxb6003797a
