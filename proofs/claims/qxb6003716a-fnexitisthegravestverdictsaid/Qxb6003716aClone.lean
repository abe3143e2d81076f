import Derived.Test.Qxb6003716aSmall
import Derived.Lib.SliceRun
namespace Go.Proofs.Qxb6003716a.fnExit
open Go.RowKit

theorem info9 : (Try.prog.info? 9).map (fun i => (i.zero, i.size, i.bytes)) = some (some (.string ⟨#[]⟩), 1, 16) := by kernel_rfl

/-- A row that is being filled: the first k are laid, the rest hold z. -/
def fillRow (f : ByteArray → Value) (z : Value) (L : List ByteArray) (k : Nat) : List Value := (L.take k).map f ++ List.replicate (L.length - k) z

theorem fill_zero (f : ByteArray → Value) (z : Value) (L : List ByteArray) : fillRow f z L 0 = List.replicate L.length z := by simp [fillRow]
theorem fill_len (f : ByteArray → Value) (z : Value) (L : List ByteArray) (k : Nat) (h : k ≤ L.length) : (fillRow f z L k).length = L.length := by simp [fillRow]; omega
theorem fill_step (f : ByteArray → Value) (z : Value) (L : List ByteArray) (k : Nat) (h : k < L.length) : (fillRow f z L k).set k (f L[k]) = fillRow f z L (k + 1) := by
  unfold fillRow
  rw [List.take_succ_eq_append_getElem h, List.map_append, List.set_append]
  have e : L.length - k = (L.length - (k + 1)) + 1 := by omega
  rw [e]
  simp [List.replicate_succ, Nat.min_eq_left (Nat.le_of_lt h)]
theorem fill_at (f : ByteArray → Value) (z : Value) (L : List ByteArray) (k : Nat) (h : k < L.length) : (fillRow f z L k)[k]? = some z := by
  unfold fillRow
  rw [List.getElem?_append_right (by simp; omega), List.getElem?_replicate, if_pos (by simp; omega)]
theorem fill_done (f : ByteArray → Value) (z : Value) (L : List ByteArray) (k : Nat) (h : L.length ≤ k) : fillRow f z L k = L.map f := by
  simp [fillRow, List.take_of_length_le h, Nat.sub_eq_zero_of_le h]

set_option maxHeartbeats 400000 in
theorem clone_nil (w : World) :
    Calls Try.prog 9 #[.slice none 0 0] w fun e w' => e = .returned (.slice none 0 0) ∧ w' = w := by
  have hq := fun w a n c => Lib.run_eql_slice_nil (P := Try.prog) w 22 9 a n c 0 0 Try.underlying22
  go_enter Try.func9, Try.ntmps9
  go_wp2
  go_ret
  exact ⟨rfl, rfl⟩

set_option maxHeartbeats 400000 in
theorem clone_empty (a : Addr) (cap : Nat) (w : World) :
    Calls Try.prog 9 #[.slice (some a) 0 cap] w fun e w' => e = .returned (.slice (some ⟨w.heap.size, 0, none⟩) 0 0) ∧ Below w.heap.size w w' := by
  have hq := fun w a n c => Lib.run_eql_slice_nil (P := Try.prog) w 22 9 a n c 0 0 Try.underlying22
  obtain ⟨i0, hi, hz0, hz1, hz2⟩ := info_parts info9
  go_enter Try.func9, Try.ntmps9
  go_wp2_with (at_make; refine wpList_make_full _ rfl _ _ 22 rfl w.heap.size 9 i0 _ 1 Try.underlying22 hi hz0 hz1 _ _ _ _ 0 rfl rfl rfl rfl (by omega) (by unfold maxLen; omega) (Nat.le_refl _) ?_; intro w1 hown hgrow)
  refine wp_loop_rounds 1 ?_
  rw [rounds_succ]
  go_wp2
  go_ret
  exact ⟨rfl, (Below.refl _ _).grown hgrow (Nat.le_refl _) (by simp)⟩

set_option maxHeartbeats 800000 in
theorem clone_some (b off cap : Nat) (L : List ByteArray) (w : World) (hL : L.length ≤ 1048576) (hbw : b < w.heap.size)
    (hc : ∀ j (h : j < L.length), w.cell? ⟨b, off + j, none⟩ = some (.string L[j])) :
    Calls Try.prog 9 #[.slice (some ⟨b, off, none⟩) L.length cap] w fun e w' => e = .returned (.slice (some ⟨w.heap.size, 0, none⟩) L.length L.length) ∧
      w'.ownsRow w.heap.size 9 1 (.slice (some ⟨w.heap.size, 0, none⟩) L.length L.length) L.length (L.map Value.string) ∧ Below w.heap.size w w' := by
  have hq := fun w a n c => Lib.run_eql_slice_nil (P := Try.prog) w 22 9 a n c 0 0 Try.underlying22
  obtain ⟨i0, hi, hz0, hz1, hz2⟩ := info_parts info9
  go_enter Try.func9, Try.ntmps9
  go_wp2_with (at_make; refine wpList_make_full _ rfl _ _ 22 rfl w.heap.size 9 i0 _ 1 Try.underlying22 hi hz0 hz1 _ _ _ _ L.length rfl rfl rfl rfl (by rw [hz2]; omega) (by unfold maxLen; omega) (Nat.le_refl _) ?_; intro w1 hown hgrow)
  rw [Nat.mul_one, show (Value.string ⟨#[]⟩).cells = #[.string ⟨#[]⟩] from rfl, toList_madeCells_one] at hown
  have hb1 : Below w.heap.size w w1 := (Below.refl _ _).grown hgrow (Nat.le_refl _) (by simp)
  clear hgrow hi hz0 hz1 hz2 i0
  go_loopw [4] (fun i wr => ∃ k : Nat, k ≤ L.length ∧ i = .int .i64 k ∧ wr.ownsRow w.heap.size 9 1 (.slice (some ⟨w.heap.size, 0, none⟩) L.length L.length) L.length (fillRow Value.string (.string ⟨#[]⟩) L k) ∧ Below w.heap.size w wr) (fun i _ => L.length - (intOf i).toNat)
  case atStart => exact ⟨0, Nat.zero_le _, rfl, by rw [fill_zero]; exact hown, hb1⟩
  case round =>
    clear hown hb1
    obtain ⟨k, hk, rfl, hown, hb⟩ := hrel
    by_cases hlt : k < L.length
    · have g : wr.cell? ⟨b, off + k, none⟩ = some (.string L[k]) := (hb.cell (by exact hbw)).trans (hc k hlt)
      have g2 : wr.cell? ⟨w.heap.size, k, none⟩ = some (.string ⟨#[]⟩) := by rw [hown.cellAt k (by omega)]; exact fill_at _ _ L k hlt
      have g3 := hown.frozenAt k
      have st := (hown.stored k (.string L[k])).1
      rw [fill_step Value.string _ L k hlt] at st
      have hb' : Below w.heap.size w (wr.setCell ⟨w.heap.size, k, none⟩ (.string L[k])) := hb.setCell (Nat.le_refl _) _
      clear hc hown hb
      go_wp2
      go_roundw
      case rel => exact ⟨k + 1, by omega, by go_num, st, hb'⟩
      case measure => simp [intOf]; omega
    · rw [fill_done _ _ L k (by omega)] at hown
      go_wp2
      go_ret
      exact ⟨rfl, hown, hb⟩
end Go.Proofs.Qxb6003716a.fnExit
