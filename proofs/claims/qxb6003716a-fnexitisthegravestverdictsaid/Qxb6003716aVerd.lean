import Derived.Test.Qxb6003716aClone
namespace Go.Proofs.Qxb6003716a.fnExit
open Go.RowKit

def Z53 : Value := .agg #[.string ⟨#[]⟩, .string ⟨#[]⟩, .string ⟨#[]⟩, .slice none 0 0]
theorem info53 : (Try.prog.info? 53).map (fun i => (i.zero, i.size, i.bytes)) = some (some Z53, 4, 72) := by kernel_rfl

/-- Row j of the verdicts' cells is the verdict of severity s. -/
def VAt (xs : List Value) (j : Nat) (s : ByteArray) : Prop :=
  xs[j * 4]? = some (.string ⟨#[69, 48, 48, 48]⟩) ∧ xs[j * 4 + 1]? = some (.string s) ∧ xs[j * 4 + 2]? = some (.string ⟨#[]⟩) ∧ xs[j * 4 + 3]? = some (.slice none 0 0)

theorem vat_step (L : List ByteArray) (xs : List Value) (k n : Nat) (hl : xs.length = n * 4) (hk : k < n) (hkL : k < L.length) (h : ∀ j (hj : j < L.length), j < k → VAt xs j L[j]) :
    ∀ j (hj : j < L.length), j < k + 1 → VAt ((((xs.set (k * 4) (.string ⟨#[69, 48, 48, 48]⟩)).set (k * 4 + 1) (.string L[k])).set (k * 4 + 2) (.string ⟨#[]⟩)).set (k * 4 + 3) (.slice none 0 0)) j L[j] := by
  intro j hj hjk
  by_cases e : j = k
  · subst e
    refine ⟨?_, ?_, ?_, ?_⟩ <;> simp [List.getElem?_set] <;> omega
  · obtain ⟨a, b, c, d⟩ := h j hj (by omega)
    refine ⟨?_, ?_, ?_, ?_⟩
    · rw [List.getElem?_set_ne (by omega), List.getElem?_set_ne (by omega), List.getElem?_set_ne (by omega), List.getElem?_set_ne (by omega)]; exact a
    · rw [List.getElem?_set_ne (by omega), List.getElem?_set_ne (by omega), List.getElem?_set_ne (by omega), List.getElem?_set_ne (by omega)]; exact b
    · rw [List.getElem?_set_ne (by omega), List.getElem?_set_ne (by omega), List.getElem?_set_ne (by omega), List.getElem?_set_ne (by omega)]; exact c
    · rw [List.getElem?_set_ne (by omega), List.getElem?_set_ne (by omega), List.getElem?_set_ne (by omega), List.getElem?_set_ne (by omega)]; exact d

theorem own_some {wr : World} {B e sz g n cap : Nat} {xs : List Value} (h : wr.ownsRow B e sz (.slice (some ⟨g, 0, none⟩) n cap) n xs) (j : Nat) (hj : j < n * sz) : ∃ v, wr.cell? ⟨g, j, none⟩ = some v := by
  rw [h.cellAt j hj]
  exact ⟨_, List.getElem?_eq_getElem (by rw [h.1]; exact hj)⟩

set_option maxHeartbeats 800000 in
theorem verd_empty (ao : Option Addr) (cap : Nat) (w : World) :
    Calls Try.prog 16 #[.slice ao 0 cap] w fun e w' => e = .returned (.slice (some ⟨w.heap.size, 0, none⟩) 0 0) ∧ Below w.heap.size w w' := by
  obtain ⟨i0, hi, hz0, hz1, hz2⟩ := info_parts info53
  go_enter Try.func16, Try.ntmps16
  go_wp2_with (at_make; refine wpList_make_full _ rfl _ _ 38 rfl w.heap.size 53 i0 _ 4 Try.underlying38 hi hz0 hz1 _ _ _ _ 0 rfl rfl rfl rfl (by rw [hz2]; omega) (by unfold maxLen; omega) (Nat.le_refl _) ?_; intro w1 hown hgrow)
  refine wp_loop_rounds 1 ?_
  rw [rounds_succ]
  go_wp2
  go_ret
  exact ⟨rfl, (Below.refl _ _).grown hgrow (Nat.le_refl _) (by simp)⟩

set_option maxHeartbeats 800000 in
theorem verd_some (b off cap : Nat) (L : List ByteArray) (w : World) (hL : L.length ≤ 1048576) (hbw : b < w.heap.size)
    (hc : ∀ j (h : j < L.length), w.cell? ⟨b, off + j, none⟩ = some (.string L[j])) :
    Calls Try.prog 16 #[.slice (some ⟨b, off, none⟩) L.length cap] w fun e w' => e = .returned (.slice (some ⟨w.heap.size, 0, none⟩) L.length L.length) ∧
       (∃ xs, w'.ownsRow w.heap.size 53 4 (.slice (some ⟨w.heap.size, 0, none⟩) L.length L.length) L.length xs ∧ ∀ j (hj : j < L.length), j < L.length → VAt xs j L[j]) ∧ Below w.heap.size w w' := by
  obtain ⟨i0, hi, hz0, hz1, hz2⟩ := info_parts info53
  go_enter Try.func16, Try.ntmps16
  go_wp2_with (at_make; refine wpList_make_full _ rfl _ _ 38 rfl w.heap.size 53 i0 _ 4 Try.underlying38 hi hz0 hz1 _ _ _ _ L.length rfl rfl rfl rfl (by rw [hz2]; omega) (by unfold maxLen; omega) (Nat.le_refl _) ?_; intro w1 hown hgrow)
  have hb1 : Below w.heap.size w w1 := (Below.refl _ _).grown hgrow (Nat.le_refl _) (by simp)
  clear hgrow hi hz0 hz1 hz2 i0
  go_loopw [4] (fun i wr => ∃ k : Nat, k ≤ L.length ∧ i = .int .i64 k ∧ (∃ xs, wr.ownsRow w.heap.size 53 4 (.slice (some ⟨w.heap.size, 0, none⟩) L.length L.length) L.length xs ∧ ∀ j (hj : j < L.length), j < k → VAt xs j L[j]) ∧ Below w.heap.size w wr) (fun i _ => L.length - (intOf i).toNat)
  case atStart => exact ⟨0, Nat.zero_le _, rfl, ⟨_, hown, fun j _ h => absurd h (by omega)⟩, hb1⟩
  case round =>
    clear hown hb1
    obtain ⟨k, hk, rfl, ⟨xs, hown, hV⟩, hb⟩ := hrel
    by_cases hlt : k < L.length
    · have g : wr.cell? ⟨b, off + k, none⟩ = some (.string L[k]) := (hb.cell (by exact hbw)).trans (hc k hlt)
      obtain ⟨v0, c0⟩ := own_some hown (k * 4) (by omega)
      obtain ⟨v1, c1⟩ := own_some hown (k * 4 + 1) (by omega)
      obtain ⟨v2, c2⟩ := own_some hown (k * 4 + 2) (by omega)
      obtain ⟨v3, c3⟩ := own_some hown (k * 4 + 3) (by omega)
      have f0 := hown.frozenAt (k * 4)
      have f1 := hown.frozenAt (k * 4 + 1)
      have f2 := hown.frozenAt (k * 4 + 2)
      have f3 := hown.frozenAt (k * 4 + 3)
      have HV := vat_step L xs k L.length hown.1 hlt hlt hV
      have st := ((((hown.stored (k * 4) (.string ⟨#[69, 48, 48, 48]⟩)).1.stored (k * 4 + 1) (.string L[k])).1.stored (k * 4 + 2) (.string ⟨#[]⟩)).1.stored (k * 4 + 3) (.slice none 0 0)).1
      have hb' : Below w.heap.size w ((((wr.setCell ⟨w.heap.size, k * 4, none⟩ (.string ⟨#[69, 48, 48, 48]⟩)).setCell ⟨w.heap.size, k * 4 + 1, none⟩ (.string L[k])).setCell ⟨w.heap.size, k * 4 + 2, none⟩ (.string ⟨#[]⟩)).setCell ⟨w.heap.size, k * 4 + 3, none⟩ (.slice none 0 0)) :=
        (((hb.setCell (Nat.le_refl _) _).setCell (Nat.le_refl _) _).setCell (Nat.le_refl _) _).setCell (Nat.le_refl _) _
      clear hc hown hV hb
      go_wp2
      go_roundw
      case rel => exact ⟨k + 1, by omega, by go_num, ⟨_, st, HV⟩, hb'⟩
      case measure => simp [intOf]; omega
    · have hkn : k = L.length := by omega
      subst hkn
      go_wp2
      go_ret
      exact ⟨rfl, ⟨xs, hown, hV⟩, hb⟩
end Go.Proofs.Qxb6003716a.fnExit
