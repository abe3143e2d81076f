import Derived.Test.Qxb6003797aGraphApp
import Derived.Test.Qxb6003797aSteps
import Derived.Outline
namespace Go.Proofs.Qxb6003797a
open Go.RowKit

section
variable {w : World} {base G M n : Nat} {f : ByteArray → Option Value} {vI vB vH vW : Value} {nI nB nH nW : Nat} {xI : List Value}
theorem GS.c0 (h : GS w base G M n f vI vB vH vW nI nB nH nW xI) : w.cell? ⟨G, 0, none⟩ = some (.map (some M)) := by rw [cell_of_row _ _ _ _ _ _ h.g]; rfl
theorem GS.c1 (h : GS w base G M n f vI vB vH vW nI nB nH nW xI) : w.cell? ⟨G, 1, none⟩ = some vI := by rw [cell_of_row _ _ _ _ _ _ h.g]; rfl
theorem GS.c2 (h : GS w base G M n f vI vB vH vW nI nB nH nW xI) : w.cell? ⟨G, 2, none⟩ = some vB := by rw [cell_of_row _ _ _ _ _ _ h.g]; rfl
theorem GS.c3 (h : GS w base G M n f vI vB vH vW nI nB nH nW xI) : w.cell? ⟨G, 3, none⟩ = some vH := by rw [cell_of_row _ _ _ _ _ _ h.g]; rfl
theorem GS.c4 (h : GS w base G M n f vI vB vH vW nI nB nH nW xI) : w.cell? ⟨G, 4, none⟩ = some vW := by rw [cell_of_row _ _ _ _ _ _ h.g]; rfl
theorem GS.fz (h : GS w base G M n f vI vB vH vW nI nB nH nW xI) (j : Nat) : w.frozen? ⟨G, j, none⟩ = false := frozen_of_row _ _ _ _ _ h.g
theorem GS.box_after {w1 : World} {v : Value} {e m : Nat} {xs : List Value} (h : GS w base G M n f vI vB vH vW nI nB nH nW xI) (hg : w.grownBy w1 v.ownBlock) (ho : w.ownsRow base e 1 v m xs) : w1.heap[G]? = some (.cells #[.map (some M), vI, vB, vH, vW] 69 (0, 0)) := by
  rw [hg.block G (lt_of_block h.g) (fun e => by have := (ho.lt G e.symm).1; have := h.hG; omega)]
  exact h.g
theorem GS.ltG (h : GS w base G M n f vI vB vH vW nI nB nH nW xI) : G < w.heap.size := lt_of_block h.g
end

/-- What 'node' leaves behind a new id. -/
def NewPost (w : World) (base G M n : Nat) (f : ByteArray → Option Value) (uI uB uH uW : Value) (d : Nat) (xI : List Value) (s : ByteArray) (e : Ending) (w' : World) : Prop :=
  e = .returned (.int .i64 d) ∧ ∃ vI vB vH vW, GS w' base G M (n + 1) (putF f s (.int .i64 d)) vI vB vH vW (d + 1) (d + 1) (d + 1) (d + 1) (xI ++ [.string s]) ∧ Fr w w' (gR G M uI uB uH uW) ∧ Lc w uI vI

theorem newPost_mk {w w' : World} {base G M n : Nat} {f : ByteArray → Option Value} {uI uB uH uW vI vB vH vW : Value} {d : Nat} {xI : List Value} {s : ByteArray}
    (h : GS w' base G M (n + 1) (putF f s (.int .i64 d)) vI vB vH vW (d + 1) (d + 1) (d + 1) (d + 1) (xI ++ [.string s])) (hf : Fr w w' (gR G M uI uB uH uW)) (hl : Lc w uI vI) :
    NewPost w base G M n f uI uB uH uW d xI s (.returned (.int .i64 d)) w' := ⟨rfl, vI, vB, vH, vW, h, hf, hl⟩

set_option maxRecDepth 100000 in
set_option maxHeartbeats 600000 in
theorem node_new (w : World) (base G M n : Nat) (f : ByteArray → Option Value) (aI aB aH aW : Option Addr) (cI cB cH cW d : Nat) (xI : List Value) (s : ByteArray)
    (h : GS w base G M n f (.slice aI d cI) (.slice aB d cB) (.slice aH d cH) (.slice aW d cW) d d d d xI) (hd : d ≤ 1000) (hn : n ≤ 1000) (hs : s.size ≤ maxLen) (hv : f s = none) :
    Calls Try.prog 38 #[.pointer (some ⟨G, 0, none⟩), .string s] w (NewPost w base G M n f (.slice aI d cI) (.slice aB d cB) (.slice aH d cH) (.slice aW d cW) d xI s) := by
  obtain ⟨i9, hi9, z90, z91, z92⟩ := info_parts info9
  obtain ⟨i4, hi4, z40, z41, z42⟩ := info_parts info4
  have c0 := h.c0
  have c1 := h.c1
  have hltG := h.ltG
  go_enter Try.func38, Try.ntmps38
  go_wp2_with (first
    | (at_lookup; refine wpList_look_none _ rfl _ _ 65 rfl 9 3 Try.underlying9 Try.underlying65 _ (zero3 _) M n f rfl h.m s rfl hs hv ?_)
    | (at_mapUpdate; refine wpList_put _ rfl _ _ _ 65 rfl 9 3 Try.underlying9 Try.underlying65 M n f rfl h.m (by unfold maxLen; omega) s rfl hs (.int .i64 d) rfl ?_; intro w1 hm1 hg1; have h1 := h.mapped hm1 hg1; clear hm1 hv; have d1 := h1.c1; have hlt1 := h1.ltG; have fz1 := h1.fz)
    | (at_builtin; refine wpList_append_lies _ rfl (.tmp 33) (.tmp 35) 22 rfl base 9 i9 _ 1 16 Try.underlying22 hi9 z90 z91 z92 rfl (by decide) (.slice aI d cI) d xI rfl (h1.i.alloc _) ⟨w1.heap.size, 0, none⟩ 1 1 [.string s] rfl rfl (cell_one_new _ _ _) (by simp [Value.oneCell']) (by decide) (by unfold maxLen; omega) (by omega) (by have := h1.hb; simp; omega) (w1.heap.size + 1) (by simp) ?_; intro gI capI w2 hoI hgI hlI hltI; have h2 := (h1.alloc _).appI hgI hoI (by simpa using hlI); have gb2 := (h1.alloc _).box_after hgI (h1.i.alloc _); have e1 := cell_of_row w2 G 1 _ _ _ gb2; have e2 := frozen_of_row w2 G 1 _ _ gb2))
  have LC : Lc w (.slice aI d cI) (.slice (some ⟨gI, 0, none⟩) (d + 1) capI) := by
    rcases hlI with e | e
    · exact .inl e.symm
    · exact .inr ⟨gI, rfl, by have := hg1.size; omega⟩
  clear hoI hlI hltI gb2 e1 e2 h1 d1 hlt1 fz1 c0 c1 hltG h
  generalize hW : w2.setCell ⟨G, 1, none⟩ (.slice (some ⟨gI, 0, none⟩) (d + 1) capI) = W at h2 ⊢
  have HW : Hid (W = w2.setCell ⟨G, 1, none⟩ (.slice (some ⟨gI, 0, none⟩) (d + 1) capI)) := hW.symm
  clear hW
  have k2 := h2.c2
  have k3 := h2.c3
  have h3 := h2.drew
  refine wp_region_late (z := 16) (S := fun w' => w'.cell? ⟨G, 2, none⟩ = some (.slice aB d cB) ∧ w'.cell? ⟨G, 3, none⟩ = some (.slice aH d cH)) (by kernel_rfl) ?_
  change wpAnyL _ _ _ _ _ _ _ _ _ W.drew
  have hS : (fun w' : World => w'.cell? ⟨G, 2, none⟩ = some (.slice aB d cB) ∧ w'.cell? ⟨G, 3, none⟩ = some (.slice aH d cH)) W.drew := ⟨k2, k3⟩
  refine wpAnyL_takeW (i := 0) (v := .pointer (some ⟨G, 0, none⟩)) (some 39) rfl (by kernel_rfl) (by kernel_rfl) (by kernel_rfl) (by kernel_rfl) (by decide) (fun _ _ _ h => h) (.inl ⟨by kernel_rfl, fun _ => by kernel_rfl⟩) (fun _ => hS) ?_
  refine wpAnyL_takeW (i := 1) (v := .pointer (some ⟨G, 0, none⟩)) (some 40) rfl (by kernel_rfl) (by kernel_rfl) (by kernel_rfl) (by kernel_rfl) (by decide) (fun _ _ _ h => h) (.inl ⟨by kernel_rfl, fun _ => by kernel_rfl⟩) (fun _ => hS) ?_
  refine wpAnyL_takeW (i := 2) (v := .pointer (some ⟨G, 0, none⟩)) (some 41) rfl (by kernel_rfl) (by kernel_rfl) (by kernel_rfl) (by kernel_rfl) (by decide) (fun _ _ _ h => h) (.inl ⟨by kernel_rfl, fun _ => by kernel_rfl⟩) (fun _ => hS) ?_
  refine wpAnyL_takeW (i := 3) (v := .pointer (some ⟨G, 0, none⟩)) (some 42) rfl (by kernel_rfl) (by kernel_rfl) (by kernel_rfl) (by kernel_rfl) (by decide) (fun _ _ _ h => h) (.inl ⟨by kernel_rfl, fun _ => by kernel_rfl⟩) (fun _ => hS) ?_
  refine wpAnyL_takeW (i := 4) (v := .pointer (some ⟨G, 2, none⟩)) (some 43) rfl (by kernel_rfl) (by kernel_rfl) (by kernel_rfl) (by kernel_rfl) (by decide) (fun _ _ _ h => h) (.inl ⟨by kernel_rfl, fun _ => by kernel_rfl⟩) (fun _ => hS) ?_
  refine wpAnyL_takeR (i := 5) (v := .slice aB d cB) (some 44) rfl (by kernel_rfl) (by kernel_rfl) (by kernel_rfl) (by kernel_rfl) (by kernel_rfl) (by decide) (by kernel_rfl) (fun _ _ _ h => h) (.inl ⟨by kernel_rfl, fun _ hx => run_load66 (x := .tmp 43) (G := G) (j := 2) (by kernel_rfl) (by kernel_rfl) hx.1⟩) hS ?_
  refine wpAnyL_takeW (i := 8) (v := .pointer (some ⟨G, 0, none⟩)) (some 47) rfl (by kernel_rfl) (by kernel_rfl) (by kernel_rfl) (by kernel_rfl) (by decide) (fun _ _ _ h => h) (.inl ⟨by kernel_rfl, fun _ => by kernel_rfl⟩) (fun _ => hS) ?_
  refine wpAnyL_takeW (i := 9) (v := .pointer (some ⟨G, 0, none⟩)) (some 48) rfl (by kernel_rfl) (by kernel_rfl) (by kernel_rfl) (by kernel_rfl) (by decide) (fun _ _ _ h => h) (.inl ⟨by kernel_rfl, fun _ => by kernel_rfl⟩) (fun _ => hS) ?_
  refine wpAnyL_takeW (i := 10) (v := .pointer (some ⟨G, 3, none⟩)) (some 49) rfl (by kernel_rfl) (by kernel_rfl) (by kernel_rfl) (by kernel_rfl) (by decide) (fun _ _ _ h => h) (.inl ⟨by kernel_rfl, fun _ => by kernel_rfl⟩) (fun _ => hS) ?_
  refine wpAnyL_takeR (i := 11) (v := .slice aH d cH) (some 50) rfl (by kernel_rfl) (by kernel_rfl) (by kernel_rfl) (by kernel_rfl) (by kernel_rfl) (by decide) (by kernel_rfl) (fun _ _ _ h => h) (.inl ⟨by kernel_rfl, fun _ hx => run_load66 (x := .tmp 49) (G := G) (j := 3) (by kernel_rfl) (by kernel_rfl) hx.2⟩) hS ?_
  refine wpAnyL_all (rs := [6, 12]) (by kernel_rfl) (by simp) ?_
  intro i hi
  rcases (by simpa using hi : i = 6 ∨ i = 12) with rfl | rfl
  · refine op_build66 (some 45) rfl (by kernel_rfl) (by kernel_rfl) (by kernel_rfl) ⟨fun _ _ => ⟨(h3.alloc _).c2, (h3.alloc _).c3⟩, ?_⟩
    refine wpAnyL_all (rs := [7, 12]) (by kernel_rfl) (by simp) ?_
    intro i hi
    rcases (by simpa using hi : i = 7 ∨ i = 12) with rfl | rfl
    · refine op_app136 (some 46) (.tmp 44) (.tmp 45) base (.slice aB d cB) d W.drew.heap.size 1 rfl (by kernel_rfl) (by kernel_rfl) (by kernel_rfl) (by kernel_rfl) (h3.alloc _).b (by kernel_rfl) (heap_alloc_new _ _) (by omega) (h3.alloc _).hb ?_
      intro gB capB wa hoB hgB hlB
      have gba := (h3.alloc _).box_after hgB (h3.alloc _).b
      have hHa := (h3.alloc _).keepH hgB
      refine ⟨fun _ _ => ⟨cell_of_row wa G 2 _ _ _ gba, cell_of_row wa G 3 _ _ _ gba⟩, ?_⟩
      refine wpAnyL_all (rs := [12]) (by kernel_rfl) (by simp) ?_
      intro i hi
      obtain rfl : i = 12 := by simpa using hi
      refine op_build66 (some 51) rfl (by kernel_rfl) (by kernel_rfl) (by kernel_rfl) ⟨fun _ _ => ⟨((World.cell?_alloc_past _ G 2 (lt_of_block gba)).trans (cell_of_row wa G 2 _ _ _ gba)), ((World.cell?_alloc_past _ G 3 (lt_of_block gba)).trans (cell_of_row wa G 3 _ _ _ gba))⟩, ?_⟩
      refine wpAnyL_all (rs := [13]) (by kernel_rfl) (by simp) ?_
      intro i hi
      obtain rfl : i = 13 := by simpa using hi
      have gbx := (Fr.alloc wa (.cells #[.slice none 0 0] 136)).block G (lt_of_block gba) (by simp)
      rw [gba] at gbx
      refine op_app136 (some 52) (.tmp 50) (.tmp 51) base (.slice aH d cH) d wa.heap.size 1 rfl (by kernel_rfl) (by kernel_rfl) (by kernel_rfl) (by kernel_rfl) (hHa.alloc _) (by kernel_rfl) (heap_alloc_new _ _) (by omega) (by have := (h3.alloc (.cells #[.slice none 0 0] 136)).hb; have := hgB.size; simp at *; omega) ?_
      intro gH capH wb hoH hgH hlH
      have gbb : wb.heap[G]? = _ := (hgH.block G (lt_of_block gbx) (fun e => h3.low_H h3.hG e.symm)).trans gbx
      have hSb : wb.cell? ⟨G, 2, none⟩ = some (.slice aB d cB) ∧ wb.cell? ⟨G, 3, none⟩ = some (.slice aH d cH) := ⟨cell_of_row wb G 2 _ _ _ gbb, cell_of_row wb G 3 _ _ _ gbb⟩
      refine ⟨fun _ _ => hSb, ?_⟩
      refine wpAnyL_takeW (i := 14) (v := .pointer (some ⟨G, 0, none⟩)) (some 53) rfl (by kernel_rfl) (by kernel_rfl) (by kernel_rfl) (by kernel_rfl) (by decide) (fun _ _ _ h => h) (.inl ⟨by kernel_rfl, fun _ => by kernel_rfl⟩) (fun _ => hSb) ?_
      refine wpAnyL_takeW (i := 15) (v := .pointer (some ⟨G, 2, none⟩)) (some 54) rfl (by kernel_rfl) (by kernel_rfl) (by kernel_rfl) (by kernel_rfl) (by decide) (fun _ _ _ h => h) (.inl ⟨by kernel_rfl, fun _ => by kernel_rfl⟩) (fun _ => hSb) ?_
      refine wpAnyL_all (rs := [16]) (by kernel_rfl) (by simp) ?_
      intro i hi
      obtain rfl : i = 16 := by simpa using hi
      refine op_store66 (.tmp 54) (.tmp 46) G 2 gB (d + 1) capB (.slice aB d cB) rfl (by kernel_rfl) (by kernel_rfl) (by kernel_rfl) (by kernel_rfl) (by kernel_rfl) hSb.1 (frozen_of_row wb G 2 _ _ gbb) ⟨fun h => (h rfl).elim, ?_⟩
      have gbc := GS.boxed gbb 2 (.slice (some ⟨gB, 0, none⟩) (d + 1) capB) rfl
      refine wpAnyL_takeW (i := 17) (v := .pointer (some ⟨G, 0, none⟩)) (some 55) rfl (by kernel_rfl) (by kernel_rfl) (by kernel_rfl) (by kernel_rfl) (by decide) (fun _ _ _ h => h) (.inl ⟨by kernel_rfl, fun _ => by kernel_rfl⟩) (fun h => absurd (h.symm.trans (show _ = true by kernel_rfl)) (by decide)) ?_
      refine wpAnyL_takeW (i := 18) (v := .pointer (some ⟨G, 3, none⟩)) (some 56) rfl (by kernel_rfl) (by kernel_rfl) (by kernel_rfl) (by kernel_rfl) (by decide) (fun _ _ _ h => h) (.inl ⟨by kernel_rfl, fun _ => by kernel_rfl⟩) (fun h => absurd (h.symm.trans (show _ = true by kernel_rfl)) (by decide)) ?_
      refine wpAnyL_all (rs := [19]) (by kernel_rfl) (by simp) ?_
      intro i hi
      obtain rfl : i = 19 := by simpa using hi
      refine op_store66 (.tmp 56) (.tmp 52) G 3 gH (d + 1) capH (.slice aH d cH) rfl (by kernel_rfl) (by kernel_rfl) (by kernel_rfl) (by kernel_rfl) (by kernel_rfl) (cell_of_row _ G 3 _ _ _ gbc) (frozen_of_row _ G 3 _ _ gbc) ⟨(fun _ h => absurd (h.symm.trans (show _ = true by kernel_rfl)) (by decide)), ?_⟩
      refine wpAnyL_done (by kernel_rfl) ?_ _
      have h4 := h3.appBH (Fr.alloc _ _) hgB hoB (hlB.imp id (fun e => by rw [e]; exact Fr.size (Fr.alloc _ _))) (Fr.alloc _ _) hgH hoH (hlH.imp id (fun e => by rw [e]; exact Fr.size (Fr.alloc _ _)))
      have F4 := Fr_appBH (Fr.alloc _ _) hgB (Fr.alloc _ _) hgH (G := G) (u := .slice (some ⟨gB, 0, none⟩) (d + 1) capB) (u' := .slice (some ⟨gH, 0, none⟩) (d + 1) capH)
      clear hoB hgB hlB gba hHa hoH hgH hlH gbb hSb gbc
      simp only [Act.put, List.setIfInBounds_toArray, List.set_cons_succ, List.set_cons_zero]
      generalize ((wb.setCell ⟨G, 2, none⟩ (.slice (some ⟨gB, 0, none⟩) (d + 1) capB)).setCell ⟨G, 3, none⟩ (.slice (some ⟨gH, 0, none⟩) (d + 1) capH)) = V at h4 F4 ⊢
      have d4 := h4.c4
      have hlt4 := h4.ltG
      go_wp2_with (at_builtin; refine wpList_append_lies _ rfl (.tmp 61) (.tmp 62) 67 rfl base 4 i4 _ 1 1 Try.underlying67 hi4 z40 z41 z42 rfl (by decide) (.slice aW d cW) d _ rfl (h4.s.alloc _) ⟨V.heap.size, 0, none⟩ 1 1 [.bool false] rfl rfl (cell_one_new _ _ _) (by simp [Value.oneCell']) (by decide) (by unfold maxLen; omega) (by omega) (by have := h4.hb; simp; omega) (V.heap.size + 1) (by simp) ?_; intro gW capW w5 hoW hgW hlW hltW; rw [← List.replicate_succ'] at hoW; have h5 := (h4.alloc _).appW hgW hoW (by simpa using hlW); have gb5 := (h4.alloc _).box_after hgW (h4.s.alloc _); have e1 := cell_of_row w5 G 4 _ _ _ gb5; have e2 := frozen_of_row w5 G 4 _ _ gb5)
      go_ret
      exact newPost_mk h5 (Fr_node hg1 hgI HW.out F4 hgW) LC
    · refine op_build66 (some 51) rfl (by kernel_rfl) (by kernel_rfl) (by kernel_rfl) ⟨fun _ _ => ⟨((h3.alloc _).alloc _).c2, ((h3.alloc _).alloc _).c3⟩, ?_⟩
      refine wpAnyL_all (rs := [7]) (by kernel_rfl) (by simp) ?_
      intro i hi
      obtain rfl : i = 7 := by simpa using hi
      refine op_app136 (some 46) (.tmp 44) (.tmp 45) base (.slice aB d cB) d W.drew.heap.size 1 rfl (by kernel_rfl) (by kernel_rfl) (by kernel_rfl) (by kernel_rfl) ((h3.alloc _).alloc _).b (by kernel_rfl) ((heap_alloc_old _ _ (by simp)).trans (heap_alloc_new _ _)) (by omega) ((h3.alloc _).alloc _).hb ?_
      intro gB capB wa hoB hgB hlB
      have gba := ((h3.alloc _).alloc _).box_after hgB ((h3.alloc _).alloc _).b
      have hHa := ((h3.alloc _).alloc _).keepH hgB
      refine ⟨fun _ _ => ⟨cell_of_row wa G 2 _ _ _ gba, cell_of_row wa G 3 _ _ _ gba⟩, ?_⟩
      refine wpAnyL_all (rs := [13]) (by kernel_rfl) (by simp) ?_
      intro i hi
      obtain rfl : i = 13 := by simpa using hi
      have blk : wa.heap[(W.drew.alloc (.cells #[.slice none 0 0] 136)).heap.size]? = some (.cells #[.slice none 0 0] 136) := by
        rw [hgB.block _ (by simp) (fun e => sep_new h3.b (by simp) e.symm)]
        exact heap_alloc_new _ _
      refine op_app136 (some 52) (.tmp 50) (.tmp 51) base (.slice aH d cH) d (W.drew.alloc (.cells #[.slice none 0 0] 136)).heap.size 1 rfl (by kernel_rfl) (by kernel_rfl) (by kernel_rfl) (by kernel_rfl) hHa (by kernel_rfl) blk (by omega) (by have := (h3.alloc (.cells #[.slice none 0 0] 136)).hb; have := hgB.size; simp at *; omega) ?_
      intro gH capH wb hoH hgH hlH
      have gbb : wb.heap[G]? = _ := (hgH.block G (lt_of_block gba) (fun e => h3.low_H h3.hG e.symm)).trans gba
      have hSb : wb.cell? ⟨G, 2, none⟩ = some (.slice aB d cB) ∧ wb.cell? ⟨G, 3, none⟩ = some (.slice aH d cH) := ⟨cell_of_row wb G 2 _ _ _ gbb, cell_of_row wb G 3 _ _ _ gbb⟩
      refine ⟨fun _ _ => hSb, ?_⟩
      clear blk
      refine wpAnyL_takeW (i := 14) (v := .pointer (some ⟨G, 0, none⟩)) (some 53) rfl (by kernel_rfl) (by kernel_rfl) (by kernel_rfl) (by kernel_rfl) (by decide) (fun _ _ _ h => h) (.inl ⟨by kernel_rfl, fun _ => by kernel_rfl⟩) (fun _ => hSb) ?_
      refine wpAnyL_takeW (i := 15) (v := .pointer (some ⟨G, 2, none⟩)) (some 54) rfl (by kernel_rfl) (by kernel_rfl) (by kernel_rfl) (by kernel_rfl) (by decide) (fun _ _ _ h => h) (.inl ⟨by kernel_rfl, fun _ => by kernel_rfl⟩) (fun _ => hSb) ?_
      refine wpAnyL_all (rs := [16]) (by kernel_rfl) (by simp) ?_
      intro i hi
      obtain rfl : i = 16 := by simpa using hi
      refine op_store66 (.tmp 54) (.tmp 46) G 2 gB (d + 1) capB (.slice aB d cB) rfl (by kernel_rfl) (by kernel_rfl) (by kernel_rfl) (by kernel_rfl) (by kernel_rfl) hSb.1 (frozen_of_row wb G 2 _ _ gbb) ⟨fun h => (h rfl).elim, ?_⟩
      have gbc := GS.boxed gbb 2 (.slice (some ⟨gB, 0, none⟩) (d + 1) capB) rfl
      refine wpAnyL_takeW (i := 17) (v := .pointer (some ⟨G, 0, none⟩)) (some 55) rfl (by kernel_rfl) (by kernel_rfl) (by kernel_rfl) (by kernel_rfl) (by decide) (fun _ _ _ h => h) (.inl ⟨by kernel_rfl, fun _ => by kernel_rfl⟩) (fun h => absurd (h.symm.trans (show _ = true by kernel_rfl)) (by decide)) ?_
      refine wpAnyL_takeW (i := 18) (v := .pointer (some ⟨G, 3, none⟩)) (some 56) rfl (by kernel_rfl) (by kernel_rfl) (by kernel_rfl) (by kernel_rfl) (by decide) (fun _ _ _ h => h) (.inl ⟨by kernel_rfl, fun _ => by kernel_rfl⟩) (fun h => absurd (h.symm.trans (show _ = true by kernel_rfl)) (by decide)) ?_
      refine wpAnyL_all (rs := [19]) (by kernel_rfl) (by simp) ?_
      intro i hi
      obtain rfl : i = 19 := by simpa using hi
      refine op_store66 (.tmp 56) (.tmp 52) G 3 gH (d + 1) capH (.slice aH d cH) rfl (by kernel_rfl) (by kernel_rfl) (by kernel_rfl) (by kernel_rfl) (by kernel_rfl) (cell_of_row _ G 3 _ _ _ gbc) (frozen_of_row _ G 3 _ _ gbc) ⟨(fun _ h => absurd (h.symm.trans (show _ = true by kernel_rfl)) (by decide)), ?_⟩
      refine wpAnyL_done (by kernel_rfl) ?_ _
      have h4 := h3.appBH (Fr.alloc2 _ _ _) hgB hoB (hlB.imp id (fun e => by rw [e]; exact Fr.size (Fr.alloc2 _ _ _))) (Fr.refl _ []) hgH hoH (hlH.imp id (fun e => by rw [e]; exact Fr.size (Fr.refl _ [])))
      have F4 := Fr_appBH (Fr.alloc2 _ _ _) hgB (Fr.refl _ []) hgH (G := G) (u := .slice (some ⟨gB, 0, none⟩) (d + 1) capB) (u' := .slice (some ⟨gH, 0, none⟩) (d + 1) capH)
      clear hoB hgB hlB gba hHa hoH hgH hlH gbb hSb gbc
      simp only [Act.put, List.setIfInBounds_toArray, List.set_cons_succ, List.set_cons_zero]
      generalize ((wb.setCell ⟨G, 2, none⟩ (.slice (some ⟨gB, 0, none⟩) (d + 1) capB)).setCell ⟨G, 3, none⟩ (.slice (some ⟨gH, 0, none⟩) (d + 1) capH)) = V at h4 F4 ⊢
      have d4 := h4.c4
      have hlt4 := h4.ltG
      go_wp2_with (at_builtin; refine wpList_append_lies _ rfl (.tmp 61) (.tmp 62) 67 rfl base 4 i4 _ 1 1 Try.underlying67 hi4 z40 z41 z42 rfl (by decide) (.slice aW d cW) d _ rfl (h4.s.alloc _) ⟨V.heap.size, 0, none⟩ 1 1 [.bool false] rfl rfl (cell_one_new _ _ _) (by simp [Value.oneCell']) (by decide) (by unfold maxLen; omega) (by omega) (by have := h4.hb; simp; omega) (V.heap.size + 1) (by simp) ?_; intro gW capW w5 hoW hgW hlW hltW; rw [← List.replicate_succ'] at hoW; have h5 := (h4.alloc _).appW hgW hoW (by simpa using hlW); have gb5 := (h4.alloc _).box_after hgW (h4.s.alloc _); have e1 := cell_of_row w5 G 4 _ _ _ gb5; have e2 := frozen_of_row w5 G 4 _ _ gb5)
      go_ret
      exact newPost_mk h5 (Fr_node hg1 hgI HW.out F4 hgW) LC
  · refine op_build66 (some 51) rfl (by kernel_rfl) (by kernel_rfl) (by kernel_rfl) ⟨fun _ _ => ⟨(h3.alloc _).c2, (h3.alloc _).c3⟩, ?_⟩
    refine wpAnyL_all (rs := [6]) (by kernel_rfl) (by simp) ?_
    intro i hi
    obtain rfl : i = 6 := by simpa using hi
    refine op_build66 (some 45) rfl (by kernel_rfl) (by kernel_rfl) (by kernel_rfl) ⟨fun _ _ => ⟨((h3.alloc _).alloc _).c2, ((h3.alloc _).alloc _).c3⟩, ?_⟩
    refine wpAnyL_all (rs := [7]) (by kernel_rfl) (by simp) ?_
    intro i hi
    obtain rfl : i = 7 := by simpa using hi
    refine op_app136 (some 46) (.tmp 44) (.tmp 45) base (.slice aB d cB) d (W.drew.alloc (.cells #[.slice none 0 0] 136)).heap.size 1 rfl (by kernel_rfl) (by kernel_rfl) (by kernel_rfl) (by kernel_rfl) ((h3.alloc _).alloc _).b (by kernel_rfl) (heap_alloc_new _ _) (by omega) ((h3.alloc _).alloc _).hb ?_
    intro gB capB wa hoB hgB hlB
    have gba := ((h3.alloc _).alloc _).box_after hgB ((h3.alloc _).alloc _).b
    have hHa := ((h3.alloc _).alloc _).keepH hgB
    refine ⟨fun _ _ => ⟨cell_of_row wa G 2 _ _ _ gba, cell_of_row wa G 3 _ _ _ gba⟩, ?_⟩
    refine wpAnyL_all (rs := [13]) (by kernel_rfl) (by simp) ?_
    intro i hi
    obtain rfl : i = 13 := by simpa using hi
    have blk : wa.heap[W.drew.heap.size]? = some (.cells #[.slice none 0 0] 136) := by
      rw [hgB.block _ (by simp; omega) (fun e => sep_new h3.b (by simp) e.symm)]
      exact (heap_alloc_old _ _ (by simp)).trans (heap_alloc_new _ _)
    refine op_app136 (some 52) (.tmp 50) (.tmp 51) base (.slice aH d cH) d W.drew.heap.size 1 rfl (by kernel_rfl) (by kernel_rfl) (by kernel_rfl) (by kernel_rfl) hHa (by kernel_rfl) blk (by omega) (by have := (h3.alloc (.cells #[.slice none 0 0] 136)).hb; have := hgB.size; simp at *; omega) ?_
    intro gH capH wb hoH hgH hlH
    have gbb : wb.heap[G]? = _ := (hgH.block G (lt_of_block gba) (fun e => h3.low_H h3.hG e.symm)).trans gba
    have hSb : wb.cell? ⟨G, 2, none⟩ = some (.slice aB d cB) ∧ wb.cell? ⟨G, 3, none⟩ = some (.slice aH d cH) := ⟨cell_of_row wb G 2 _ _ _ gbb, cell_of_row wb G 3 _ _ _ gbb⟩
    refine ⟨fun _ _ => hSb, ?_⟩
    clear blk
    refine wpAnyL_takeW (i := 14) (v := .pointer (some ⟨G, 0, none⟩)) (some 53) rfl (by kernel_rfl) (by kernel_rfl) (by kernel_rfl) (by kernel_rfl) (by decide) (fun _ _ _ h => h) (.inl ⟨by kernel_rfl, fun _ => by kernel_rfl⟩) (fun _ => hSb) ?_
    refine wpAnyL_takeW (i := 15) (v := .pointer (some ⟨G, 2, none⟩)) (some 54) rfl (by kernel_rfl) (by kernel_rfl) (by kernel_rfl) (by kernel_rfl) (by decide) (fun _ _ _ h => h) (.inl ⟨by kernel_rfl, fun _ => by kernel_rfl⟩) (fun _ => hSb) ?_
    refine wpAnyL_all (rs := [16]) (by kernel_rfl) (by simp) ?_
    intro i hi
    obtain rfl : i = 16 := by simpa using hi
    refine op_store66 (.tmp 54) (.tmp 46) G 2 gB (d + 1) capB (.slice aB d cB) rfl (by kernel_rfl) (by kernel_rfl) (by kernel_rfl) (by kernel_rfl) (by kernel_rfl) hSb.1 (frozen_of_row wb G 2 _ _ gbb) ⟨fun h => (h rfl).elim, ?_⟩
    have gbc := GS.boxed gbb 2 (.slice (some ⟨gB, 0, none⟩) (d + 1) capB) rfl
    refine wpAnyL_takeW (i := 17) (v := .pointer (some ⟨G, 0, none⟩)) (some 55) rfl (by kernel_rfl) (by kernel_rfl) (by kernel_rfl) (by kernel_rfl) (by decide) (fun _ _ _ h => h) (.inl ⟨by kernel_rfl, fun _ => by kernel_rfl⟩) (fun h => absurd (h.symm.trans (show _ = true by kernel_rfl)) (by decide)) ?_
    refine wpAnyL_takeW (i := 18) (v := .pointer (some ⟨G, 3, none⟩)) (some 56) rfl (by kernel_rfl) (by kernel_rfl) (by kernel_rfl) (by kernel_rfl) (by decide) (fun _ _ _ h => h) (.inl ⟨by kernel_rfl, fun _ => by kernel_rfl⟩) (fun h => absurd (h.symm.trans (show _ = true by kernel_rfl)) (by decide)) ?_
    refine wpAnyL_all (rs := [19]) (by kernel_rfl) (by simp) ?_
    intro i hi
    obtain rfl : i = 19 := by simpa using hi
    refine op_store66 (.tmp 56) (.tmp 52) G 3 gH (d + 1) capH (.slice aH d cH) rfl (by kernel_rfl) (by kernel_rfl) (by kernel_rfl) (by kernel_rfl) (by kernel_rfl) (cell_of_row _ G 3 _ _ _ gbc) (frozen_of_row _ G 3 _ _ gbc) ⟨(fun _ h => absurd (h.symm.trans (show _ = true by kernel_rfl)) (by decide)), ?_⟩
    refine wpAnyL_done (by kernel_rfl) ?_ _
    have h4 := h3.appBH (Fr.alloc2 _ _ _) hgB hoB (hlB.imp id (fun e => by rw [e]; exact Fr.size (Fr.alloc2 _ _ _))) (Fr.refl _ []) hgH hoH (hlH.imp id (fun e => by rw [e]; exact Fr.size (Fr.refl _ [])))
    have F4 := Fr_appBH (Fr.alloc2 _ _ _) hgB (Fr.refl _ []) hgH (G := G) (u := .slice (some ⟨gB, 0, none⟩) (d + 1) capB) (u' := .slice (some ⟨gH, 0, none⟩) (d + 1) capH)
    clear hoB hgB hlB gba hHa hoH hgH hlH gbb hSb gbc
    simp only [Act.put, List.setIfInBounds_toArray, List.set_cons_succ, List.set_cons_zero]
    generalize ((wb.setCell ⟨G, 2, none⟩ (.slice (some ⟨gB, 0, none⟩) (d + 1) capB)).setCell ⟨G, 3, none⟩ (.slice (some ⟨gH, 0, none⟩) (d + 1) capH)) = V at h4 F4 ⊢
    have d4 := h4.c4
    have hlt4 := h4.ltG
    go_wp2_with (at_builtin; refine wpList_append_lies _ rfl (.tmp 61) (.tmp 62) 67 rfl base 4 i4 _ 1 1 Try.underlying67 hi4 z40 z41 z42 rfl (by decide) (.slice aW d cW) d _ rfl (h4.s.alloc _) ⟨V.heap.size, 0, none⟩ 1 1 [.bool false] rfl rfl (cell_one_new _ _ _) (by simp [Value.oneCell']) (by decide) (by unfold maxLen; omega) (by omega) (by have := h4.hb; simp; omega) (V.heap.size + 1) (by simp) ?_; intro gW capW w5 hoW hgW hlW hltW; rw [← List.replicate_succ'] at hoW; have h5 := (h4.alloc _).appW hgW hoW (by simpa using hlW); have gb5 := (h4.alloc _).box_after hgW (h4.s.alloc _); have e1 := cell_of_row w5 G 4 _ _ _ gb5; have e2 := frozen_of_row w5 G 4 _ _ gb5)
    go_ret
    exact newPost_mk h5 (Fr_node hg1 hgI HW.out F4 hgW) LC
end Go.Proofs.Qxb6003797a
