import Derived.Test.Qxb6003797aShed
namespace Go.Proofs.Qxb6003797a
open Go.RowKit

set_option maxHeartbeats 1600000 in
theorem heardIn (w : World) (B n : Nat) (F : NF) (h : NI w B n F) (o : ByteArray) (i v : Int) (aH : Option Addr) (cH : Nat) (L : List ByteArray) (hs : SS w aH cH L) (hsR : ∀ b off, aH = some ⟨b, off, none⟩ → b ≠ B + 15 ∧ b ≠ B + 16) (hL : L.length ≤ 1000) (hn : n ≤ 10000) (hsz : ∀ s ∈ L, s.size ≤ maxLen) (ho : o.size ≤ maxLen) :
    Calls Try.prog 55 #[.pointer (some ⟨B + 16, 0, none⟩), REC o i v (.slice aH L.length cH)] w fun e w' => e = .returned (.tuple #[]) ∧ ∃ f', NI w' B (n + 1 + L.length) { F with hr := f' } ∧ f' o ≠ none ∧ (∀ s ∈ L, f' s ≠ none) ∧ Fr w w' [some (B + 16), some (B + 15)] := by
  obtain ⟨cs, hcs⟩ : ∃ cs : Array Value, cs = #[.string o, .int .u64 i, .int .u64 v, .slice aH L.length cH, .slice none 0 0, .slice none 0 0, .slice none 0 0, .slice none 0 0, .slice none 0 0, .slice none 0 0, .slice none 0 0, .slice none 0 0, .slice none 0 0, .slice none 0 0, .slice none 0 0, .bool false] := ⟨_, rfl⟩
  have hlt := h.lt
  obtain ⟨W, hW⟩ : ∃ W, W = (w.alloc (.cells cs 83)).alloc (.cells #[.string o] 9) := ⟨_, rfl⟩
  have hF0 : Fr w W [some (B + 16), some (B + 15)] := by rw [hW]; exact (Fr.alloc2 _ _ _).mono (by simp)
  have hNW : NI W B n F := by rw [hW]; exact (h.alloc _).alloc _
  have hsW : SS W aH cH L := hs.keep (R := []) (by rw [hW]; exact Fr.alloc2 _ _ _) (by simp)
  have hcW : W.heap[w.heap.size]? = some (.cells cs 83 (0, 0)) := by rw [hW, heap_alloc_old _ _ (by simp), heap_alloc_new]
  have hoW : W.cell? ⟨w.heap.size + 1, 0, none⟩ = some (.string o) := by rw [hW]; simp
  have hszW : W.heap.size = w.heap.size + 2 := by rw [hW]; simp
  have H1 : Calls Try.prog 53 #[.pointer (some ⟨B + 16, 0, none⟩), .slice (some ⟨w.heap.size + 1, 0, none⟩) 1 1] W fun e w' => e = .returned (.tuple #[]) ∧ ∃ f', NI w' B (n + 1) { F with hr := f' } ∧ (∀ s, F.hr s ≠ none → f' s ≠ none) ∧ (∀ s ∈ [o], f' s ≠ none) ∧ Fr W w' [some (B + 16), some (B + 15)] :=
    heardOf W B n F hNW (some ⟨w.heap.size + 1, 0, none⟩) 1 [o] (.inr ⟨_, 0, rfl, by omega, by simp, fun j hj => by obtain rfl : j = 0 := (by simpa using hj); exact hoW⟩) (fun b off e => by cases e; omega) (by simp) (by omega) (by intro s hs'; rw [List.mem_singleton.1 hs']; exact ho)
  have HW : Hid (W = _) := hW
  have HC : Hid (cs = _) := hcs
  clear hW hcs hoW
  unfold REC
  go_enter Try.func55, Try.ntmps55
  go_wp2_with fail
  rw [← HC.out, ← HW.out]
  refine H1.mono ?_
  rintro e w1 ⟨rfl, f1, hN1, hk1, hd1, hF1⟩
  have hc1 : w1.heap[w.heap.size]? = some (.cells cs 83 (0, 0)) := (hF1.block _ (by omega) (by simp; omega)).trans hcW
  have e3 : w1.cell? ⟨w.heap.size, 3, none⟩ = some (.slice aH L.length cH) := by rw [cell_of_row _ _ _ _ _ _ hc1, HC.out]; rfl
  have hs1 : SS w1 aH cH L := hsW.keep hF1 (fun b off e => by have := hsR b off e; simp; omega)
  have H2 := heardOf w1 B (n + 1) { F with hr := f1 } hN1 aH cH L hs1 hsR hL (by omega) hsz
  clear H1 hcW hNW hsW hN1
  go_wp2_with fail
  refine H2.mono ?_
  rintro e w2 ⟨rfl, f2, hN2, hk2, hd2, hF2⟩
  have hc2 : w2.heap[w.heap.size]? = some (.cells cs 83 (0, 0)) := (hF2.block _ (lt_of_block hc1) (by simp; omega)).trans hc1
  have e5 : w2.cell? ⟨w.heap.size, 5, none⟩ = some (.slice none 0 0) := by rw [cell_of_row _ _ _ _ _ _ hc2, HC.out]; rfl
  clear H2
  go_wp2_with fail
  refine wp_loop_rounds 1 ?_
  rw [rounds_succ]
  go_wp2
  go_end0
  exact ⟨rfl, f2, hN2, hk2 o (hd1 o (by simp)), hd2, (hF0.trans hF1 (fun _ _ h => h)).trans hF2 (fun _ _ h => h)⟩
end Go.Proofs.Qxb6003797a
