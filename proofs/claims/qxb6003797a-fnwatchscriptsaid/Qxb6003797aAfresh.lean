import Derived.Test.Qxb6003797aNodes
namespace Go.Proofs.Qxb6003797a
open Go.RowKit

/-- What hearAfresh leaves. -/
def HAPost (w : World) (B n H : Nat) (F : NF) (id : ByteArray) (count : Int) (e : Ending) (w' : World) : Prop :=
  e = .returned (.tuple #[]) ∧ ∃ f' g', NI w' B (n + 3) { F with hr := f', la := delF F.la id, si := delF F.si id, op := delF F.op id, af := g' } ∧ g' id = some (.int .u64 (if count = 18446744073709551615 then count else count + 1)) ∧
    w'.heap[H]? = some (.cells #[.int .i64 0, .int .u64 2, .int .u64 count, .bool false] 96 (0, 0)) ∧ Fr w w' [some H, some (B + 16), some (B + 15), some (B + 8), some (B + 2), some (B + 12), some (B + 9)]

set_option maxRecDepth 100000 in
set_option maxHeartbeats 3200000 in
theorem hearAfresh (w : World) (B n H : Nat) (F : NF) (h : NI w B n F) (hre : F.re SELF = some (REC SELF 1 1 NIL)) (id : ByteArray) (hs : id.size ≤ maxLen) (since count : Int) (h0 : 0 ≤ count) (h1 : count ≤ 18446744073709551615) (hn : n ≤ 50000) (hH : B + 16 < H)
    (hb : w.heap[H]? = some (.cells #[.int .i64 0, .int .u64 since, .int .u64 count, .bool false] 96 (0, 0))) :
    Calls Try.prog 46 #[.pointer (some ⟨B + 16, 0, none⟩), .pointer (some ⟨H, 0, none⟩), .string id] w (HAPost w B n H F id count) := by
  have hlt := h.lt
  have ltH := lt_of_block hb
  go_enter Try.func46, Try.ntmps46
  go_wp2_with fail
  refine (nextVersion w B n F h hre).mono ?_
  rintro e w1 ⟨rfl, s1⟩
  have n1 := h.same s1
  have b1 : w1.heap[H]? = some (.cells #[.int .i64 0, .int .u64 since, .int .u64 count, .bool false] 96 (0, 0)) := by rw [s1.heap]; exact hb
  have c1 := cell_of_row w1 H 1 _ _ _ b1
  have z1 := frozen_of_row w1 H 1 _ _ b1
  simp at c1
  go_wp2_with fail
  obtain ⟨W2, hW2⟩ : ∃ W2, W2 = (w1.setCell ⟨H, 1, none⟩ (.int .u64 2)).alloc (.cells #[.string id] 9) := ⟨_, rfl⟩
  rw [← hW2]
  have hsz2 : W2.heap.size = w1.heap.size + 1 := by rw [hW2]; simp
  have f2a : Fr w1 (w1.setCell ⟨H, 1, none⟩ (.int .u64 2)) [some H] := Fr.setCell _ _ _
  have f2 : Fr w1 W2 [some H] := by rw [hW2]; exact f2a.trans (Fr.alloc _ _) (by simp)
  have n2 := n1.keep f2 (by intro k hk1 hk2; simp; omega)
  have b2 : W2.heap[H]? = some (.cells #[.int .i64 0, .int .u64 2, .int .u64 count, .bool false] 96 (0, 0)) := by
    rw [hW2, Go.heap_alloc_old _ _ (by simp; rw [s1.heap]; exact ltH), heap_setCell_same _ _ _ _ _ _ b1]
    rfl
  have ss2 : SS W2 (some ⟨w1.heap.size, 0, none⟩) 1 [id] := .inr ⟨w1.heap.size, 0, rfl, by omega, by simp, fun j hj => by
    have : j = 0 := by simp at hj; omega
    subst this
    have hb3 : W2.heap[w1.heap.size]? = some (.cells #[.string id] 9 (0, 0)) := by
      rw [hW2]
      have := Go.heap_alloc_new (w1.setCell ⟨H, 1, none⟩ (.int .u64 2)) (.cells #[.string id] 9)
      simpa using this
    rw [cell_of_row _ _ _ _ _ _ hb3]
    rfl⟩
  have hs1 : w1.heap.size = w.heap.size := by rw [s1.heap]
  clear hW2 f2a c1 z1 b1 n1
  refine (heardOf W2 B n F n2 _ _ [id] ss2 (fun b off e => by cases e; omega) (by simp) (by omega) (by simpa using hs)).mono ?_
  rintro e w3 ⟨rfl, f', n3, -, -, f3⟩
  have b3 := f3.keepB b2 (by simp; omega)
  have fw3 : Fr w w3 [some H, some (B + 16), some (B + 15), some (B + 8), some (B + 2), some (B + 12), some (B + 9)] := ((s1.fr.mono (by simp)).trans f2 (fun k _ hk => by simp at hk ⊢; omega)).trans f3 (fun k _ hk => by simp at hk ⊢; omega)
  clear f2 f3 ss2 n2 b2
  have c3 := n3.c_la
  go_wp2_with (first
    | (at_delete; refine wpList_del _ rfl _ _ 88 9 rfl 39 Try.underlying9 Try.underlying88 (B + 8) _ F.la rfl n3.la id rfl hs ?_; intro w4 hm4 hg4; have n4 := n3.w_la hm4 hg4 (Nat.le_refl _); have c4 := n4.c_si)
    | (at_delete; refine wpList_del _ rfl _ _ 85 9 rfl 102 Try.underlying9 Try.underlying85 (B + 2) _ F.si rfl n4.si id rfl hs ?_; intro w5 hm5 hg5; have n5 := n4.w_si hm5 hg5 (Nat.le_refl _); have c5 := n5.c_op)
    | (at_delete; refine wpList_del _ rfl _ _ 87 9 rfl 4 Try.underlying9 Try.underlying87 (B + 12) _ F.op rfl n5.op id rfl hs ?_; intro w6 hm6 hg6; have n6 := n5.w_op hm6 hg6 (Nat.le_refl _); have z13 := n6.fz 13; obtain ⟨u13, d13⟩ := n6.there 13 (by omega)))
  have f36 : Fr w3 w6 [some H, some (B + 16), some (B + 15), some (B + 8), some (B + 2), some (B + 12), some (B + 9)] := ((Fr.of_grown hg4 (.inl (by simp))).trans (Fr.of_grown (R := [some (B + 2)]) hg5 (.inl (by simp))) (fun k _ hk => by simp at hk ⊢; omega)).trans (Fr.of_grown (R := [some (B + 12)]) hg6 (.inl (by simp))) (fun k _ hk => by simp at hk ⊢; omega)
  have g36 : Fr w3 w6 [some (B + 8), some (B + 2), some (B + 12)] := ((Fr.of_grown hg4 (.inl (by simp))).trans (Fr.of_grown (R := [some (B + 2)]) hg5 (.inl (by simp))) (fun k _ hk => by simp at hk ⊢; omega)).trans (Fr.of_grown (R := [some (B + 12)]) hg6 (.inl (by simp))) (fun k _ hk => by simp at hk ⊢; omega)
  have b6 := g36.keepB b3 (by simp; omega)
  have n7 := n6.set 13 (.bool true) (by decide)
  have f7 : Fr w6 (w6.setCell ⟨B + 16, 13, none⟩ (.bool true)) [some (B + 16)] := Fr.setCell _ _ _
  have b7 := f7.keepB b6 (by simp; omega)
  have fw7 := (fw3.trans f36 (fun _ _ h => h)).trans f7 (fun k _ hk => by simp at hk ⊢; omega)
  generalize w6.setCell ⟨B + 16, 13, none⟩ (.bool true) = w7 at *
  clear hm4 hm5 hm6 hg4 hg5 hg6 n4 n5 n6 c3 c4 c5 z13 d13 f36 g36 b6 f7 b3 n3 fw3
  have c11 := n7.c_af
  have k2 := cell_of_row w7 H 2 _ _ _ b7
  simp at k2
  have hnl : n + [id].length < maxLen := by simp; unfold maxLen; omega
  by_cases hmax : count = 18446744073709551615
  · subst hmax
    obtain ⟨w8, hrun, hm8, hg8⟩ := n7.drew.af.update Try.underlying9 Try.underlying88 hnl hs (.int .u64 (IntKind.u64.wrap 18446744073709551616))
    have n8 := n7.drew.w_af hm8 hg8 (Nat.le_succ _)
    have f8 : Fr w7 w8 [some (B + 9)] := (Fr.of_grown hg8 (.inl (by simp))).undrew
    have b8 := f8.keepB b7 (by simp; omega)
    have c8 := n8.c_af
    have k8 := cell_of_row w8 H 2 _ _ _ b8
    simp at k8
    go_region
    go_wp2_with fail
    obtain ⟨w9, hrun9, hm9, hg9⟩ := n8.drew.af.update Try.underlying9 Try.underlying88 (by simp; unfold maxLen; omega) hs (.int .u64 18446744073709551615)
    have n9 := n8.drew.w_af hm9 hg9 (Nat.le_succ _)
    have f9 : Fr w8 w9 [some (B + 9)] := (Fr.of_grown hg9 (.inl (by simp))).undrew
    have b9 := f9.keepB b8 (by simp; omega)
    go_region
    go_wp2
    go_end0
    refine ⟨rfl, _, _, n9.mono (by simp), ?_, b9, (fw7.trans f8 (fun k _ hk => by simp at hk ⊢; omega)).trans f9 (fun k _ hk => by simp at hk ⊢; omega)⟩
    rw [putF_same, if_pos rfl]
  · have hne : (count == 18446744073709551615) = false := by simpa using hmax
    obtain ⟨w8, hrun, hm8, hg8⟩ := n7.drew.af.update Try.underlying9 Try.underlying88 hnl hs (.int .u64 (count + 1))
    have n8 := n7.drew.w_af hm8 hg8 (Nat.le_succ _)
    have f8 : Fr w7 w8 [some (B + 9)] := (Fr.of_grown hg8 (.inl (by simp))).undrew
    have b8 := f8.keepB b7 (by simp; omega)
    have k8 := cell_of_row w8 H 2 _ _ _ b8
    simp at k8
    go_region
    go_wp2
    go_end0
    refine ⟨rfl, _, _, n8.mono (by simp), ?_, b8, fw7.trans f8 (fun k _ hk => by simp at hk ⊢; omega)⟩
    rw [putF_same, if_neg hmax]

/-- What the law reads of a node that has heard afresh. -/
def ZHPost (w : World) (B n : Nat) (F : NF) (id : ByteArray) (count : Int) (e : Ending) (w' : World) : Prop :=
  e = .returned (.tuple #[.int .u64 2, .int .u64 count]) ∧ ∃ f' g', NI w' B (n + 3) { F with hr := f', la := delF F.la id, si := delF F.si id, op := delF F.op id, af := g' } ∧ g' id = some (.int .u64 (if count = 18446744073709551615 then count else count + 1)) ∧
    Fr w w' [some (B + 16), some (B + 15), some (B + 8), some (B + 2), some (B + 12), some (B + 9)]

set_option maxRecDepth 100000 in
set_option maxHeartbeats 1600000 in
theorem zzHearAfresh (w : World) (B n : Nat) (F : NF) (h : NI w B n F) (hre : F.re SELF = some (REC SELF 1 1 NIL)) (id : ByteArray) (hs : id.size ≤ maxLen) (since count : Int) (h0 : 0 ≤ count) (h1 : count ≤ 18446744073709551615) (hn : n ≤ 50000) :
    Calls Try.prog 28 #[.pointer (some ⟨B + 16, 0, none⟩), .string id, .int .u64 since, .int .u64 count] w (ZHPost w B n F id count) := by
  have hlt := h.lt
  go_enter Try.func28, Try.ntmps28
  go_wp2_with fail
  refine (hearAfresh _ B n w.heap.size F (h.alloc _) hre id hs since count h0 h1 hn hlt (Go.heap_alloc_new _ _)).mono ?_
  rintro e w1 ⟨rfl, f', g', n1, hg, b1, f1⟩
  have k1 := cell_of_row w1 w.heap.size 1 _ _ _ b1
  have k2 := cell_of_row w1 w.heap.size 2 _ _ _ b1
  simp at k1 k2
  have fw1 : Fr w w1 [some (B + 16), some (B + 15), some (B + 8), some (B + 2), some (B + 12), some (B + 9)] := ((Fr.alloc w _).mono (by simp)).trans f1 (fun k hk hm => by simp at hm ⊢; omega)
  clear b1 f1
  go_wp2_with fail
  go_quiet (fail)
  go_wp2
  go_ret2
  exact ⟨rfl, f', g', n1.same (Sm.drewN _ _), hg, fw1.trans (Sm.drewN _ _).fr (by simp)⟩
end Go.Proofs.Qxb6003797a
