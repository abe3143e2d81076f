import Derived.Test.Qxb6003716aVerd
namespace Go.Proofs.Qxb6003716a.fnExit
open Go.RowKit

def isE (s : ByteArray) : Bool := s.toList == [101, 114, 114, 111, 114]
def isW (s : ByteArray) : Bool := s.toList == [119, 97, 114, 110, 105, 110, 103]
def isN (s : ByteArray) : Bool := s.toList == [110, 111, 116, 105, 99, 101]

theorem isE_W (s : ByteArray) (h : isE s = true) : isW s = false := by
  simp only [isE, beq_iff_eq] at h
  simp [isW, h]
theorem isE_N (s : ByteArray) (h : isE s = true) : isN s = false := by
  simp only [isE, beq_iff_eq] at h
  simp [isN, h]
theorem isW_N (s : ByteArray) (h : isW s = true) : isN s = false := by
  simp only [isW, beq_iff_eq] at h
  simp [isN, h]

theorem cnt_take (p : ByteArray → Bool) (L : List ByteArray) (k : Nat) (h : k < L.length) : (L.take (k + 1)).countP p = (L.take k).countP p + (if p L[k] then 1 else 0) := by
  rw [List.take_succ_eq_append_getElem h, List.countP_append, List.countP_singleton]
theorem cnt_yes (p : ByteArray → Bool) (L : List ByteArray) (k : Nat) (h : k < L.length) (t : p L[k] = true) : (L.take (k + 1)).countP p = (L.take k).countP p + 1 := by rw [cnt_take p L k h, t]; rfl
theorem cnt_no (p : ByteArray → Bool) (L : List ByteArray) (k : Nat) (h : k < L.length) (t : p L[k] = false) : (L.take (k + 1)).countP p = (L.take k).countP p := by rw [cnt_take p L k h, t]; rfl
theorem cnt_le (p : ByteArray → Bool) (L : List ByteArray) (k : Nat) : (L.take k).countP p ≤ L.length :=
  Nat.le_trans (List.countP_le_length) (by simp; omega)

/-- The box of three counts. -/
def C3 (a b c : Nat) : Array Value := #[.int .i64 a, .int .i64 b, .int .i64 c]

/-- The two boxes, and old memory. -/
structure SInv (w wr : World) (a b c : Nat) : Prop where
  r : wr.heap[w.heap.size]? = some (.cells (C3 0 0 0) 36 (0, 0))
  s : wr.heap[w.heap.size + 1]? = some (.cells (C3 a b c) 36 (0, 0))
  bel : Below w.heap.size w wr

theorem SInv.start (w : World) : SInv w ((w.alloc (.cells #[.int .i64 0, .int .i64 0, .int .i64 0] 36)).alloc (.cells #[.int .i64 0, .int .i64 0, .int .i64 0] 36)) 0 0 0 := by
  refine ⟨?_, ?_, ((Below.refl _ _).alloc (Nat.le_refl _) _).alloc (by simp) _⟩
  · rw [heap_alloc_old _ _ (by simp), heap_alloc_new]; rfl
  · have := heap_alloc_new (w.alloc (.cells #[.int .i64 0, .int .i64 0, .int .i64 0] 36)) (.cells #[.int .i64 0, .int .i64 0, .int .i64 0] 36)
    rw [World.size_alloc] at this
    rw [this]; rfl

theorem SInv.lt {w wr : World} {a b c : Nat} (h : SInv w wr a b c) : w.heap.size + 1 < wr.heap.size := lt_of_block h.s

theorem SInv.alloc {w wr : World} {a b c : Nat} (h : SInv w wr a b c) (o : Obj) : SInv w (wr.alloc o) a b c := by
  have := h.lt
  refine ⟨?_, ?_, h.bel.alloc (by omega) _⟩
  · rw [heap_alloc_old _ _ (by omega)]; exact h.r
  · rw [heap_alloc_old _ _ (by omega)]; exact h.s

theorem SInv.set {w wr : World} {a b c a' b' c' : Nat} (h : SInv w wr a b c) (i : Nat) (v : Value) (e : (C3 a b c).setIfInBounds i v = C3 a' b' c') : SInv w (wr.setCell ⟨w.heap.size + 1, i, none⟩ v) a' b' c' := by
  refine ⟨?_, ?_, h.bel.setCell (by show w.heap.size ≤ w.heap.size + 1; omega) _⟩
  · rw [heap_setCell_other _ _ _ _ (by show w.heap.size ≠ w.heap.size + 1; omega)]; exact h.r
  · rw [heap_setCell_same _ _ _ _ _ _ h.s, e]

theorem SInv.c0 {w wr : World} {a b c : Nat} (h : SInv w wr a b c) : wr.cell? ⟨w.heap.size + 1, 0, none⟩ = some (.int .i64 a) := by rw [cell_of_row _ _ _ _ _ _ h.s]; rfl
theorem SInv.c1 {w wr : World} {a b c : Nat} (h : SInv w wr a b c) : wr.cell? ⟨w.heap.size + 1, 1, none⟩ = some (.int .i64 b) := by rw [cell_of_row _ _ _ _ _ _ h.s]; rfl
theorem SInv.c2 {w wr : World} {a b c : Nat} (h : SInv w wr a b c) : wr.cell? ⟨w.heap.size + 1, 2, none⟩ = some (.int .i64 c) := by rw [cell_of_row _ _ _ _ _ _ h.s]; rfl
theorem SInv.f {w wr : World} {a b c : Nat} (h : SInv w wr a b c) (j : Nat) : wr.frozen? ⟨w.heap.size + 1, j, none⟩ = false := frozen_of_row _ _ _ _ _ h.s
theorem SInv.r0 {w wr : World} {a b c : Nat} (h : SInv w wr a b c) : wr.cell? ⟨w.heap.size, 0, none⟩ = some (.int .i64 0) := by rw [cell_of_row _ _ _ _ _ _ h.r]; rfl
theorem SInv.r1 {w wr : World} {a b c : Nat} (h : SInv w wr a b c) : wr.cell? ⟨w.heap.size, 1, none⟩ = some (.int .i64 0) := by rw [cell_of_row _ _ _ _ _ _ h.r]; rfl
theorem SInv.r2 {w wr : World} {a b c : Nat} (h : SInv w wr a b c) : wr.cell? ⟨w.heap.size, 2, none⟩ = some (.int .i64 0) := by rw [cell_of_row _ _ _ _ _ _ h.r]; rfl
theorem SInv.rf {w wr : World} {a b c : Nat} (h : SInv w wr a b c) (j : Nat) : wr.frozen? ⟨w.heap.size, j, none⟩ = false := frozen_of_row _ _ _ _ _ h.r

set_option maxHeartbeats 1600000 in
theorem summ_some (g cap : Nat) (L : List ByteArray) (xs : List Value) (w : World) (hL : L.length ≤ 1048576) (hbw : g < w.heap.size)
    (hown : w.ownsRow g 53 4 (.slice (some ⟨g, 0, none⟩) L.length cap) L.length xs) (hV : ∀ j (hj : j < L.length), j < L.length → VAt xs j L[j]) :
    Calls Try.prog 15 #[.slice (some ⟨g, 0, none⟩) L.length cap] w fun e w' => e = .returned (.agg #[.int .i64 (L.countP isE), .int .i64 (L.countP isW), .int .i64 (L.countP isN)]) ∧ Below w.heap.size w w' := by
  go_enter Try.func15, Try.ntmps15
  go_wp2
  go_loopw [8] (fun i wr => ∃ k : Nat, k ≤ L.length ∧ i = .int .i64 k ∧ SInv w wr ((L.take k).countP isE) ((L.take k).countP isW) ((L.take k).countP isN)) (fun i _ => L.length - (intOf i).toNat)
  case atStart => exact ⟨0, Nat.zero_le _, rfl, SInv.start w⟩
  case round =>
    obtain ⟨k, hk, rfl, hI⟩ := hrel
    have bE := cnt_le isE L k
    have bW := cnt_le isW L k
    have bN := cnt_le isN L k
    have hlt2 := hI.lt
    have h0 := hI.c0
    have h1 := hI.c1
    have h2 := hI.c2
    have hf := hI.f
    by_cases hlt : k < L.length
    · have hcg : ∀ j, j < L.length * 4 → wr.cell? ⟨g, j, none⟩ = xs[j]? := fun j hj => (hI.bel.cell (by exact hbw)).trans (hown.cellAt j hj)
      obtain ⟨a, b, c, d⟩ := hV k hlt hlt
      have c0 := (hcg (k * 4) (by omega)).trans a
      have c1 := (hcg (k * 4 + 1) (by omega)).trans b
      have c2 := (hcg (k * 4 + 2) (by omega)).trans c
      have c3 := (hcg (k * 4 + 3) (by omega)).trans d
      clear hcg a b c d hown hV
      cases tE : isE L[k]
      · cases tW : isW L[k]
        · cases tN : isN L[k]
          · have qE : (L[k].toList == [101, 114, 114, 111, 114]) = false := tE
            have qW : (L[k].toList == [119, 97, 114, 110, 105, 110, 103]) = false := tW
            have qN : (L[k].toList == [110, 111, 116, 105, 99, 101]) = false := tN
            have e1 : Hid (_ = _) := cnt_no isE L k hlt (tE)
            have e2 : Hid (_ = _) := cnt_no isW L k hlt (tW)
            have e3 : Hid (_ = _) := cnt_no isN L k hlt (tN)
            clear tE tW tN
            go_wp2
            go_roundw
            case rel => exact ⟨k + 1, by omega, by go_num, by rw [e1.out, e2.out, e3.out]; exact hI.alloc _⟩
            case measure => simp [intOf]; omega
          · have qE : (L[k].toList == [101, 114, 114, 111, 114]) = false := tE
            have qW : (L[k].toList == [119, 97, 114, 110, 105, 110, 103]) = false := tW
            have qN : (L[k].toList == [110, 111, 116, 105, 99, 101]) = true := tN
            have e1 : Hid (_ = _) := cnt_no isE L k hlt (tE)
            have e2 : Hid (_ = _) := cnt_no isW L k hlt (tW)
            have e3 : Hid (_ = _) := cnt_yes isN L k hlt (tN)
            clear tE tW tN
            go_wp2
            go_roundw
            case rel => exact ⟨k + 1, by omega, by go_num, by rw [e1.out, e2.out, e3.out]; exact (hI.set 2 _ rfl).alloc _⟩
            case measure => simp [intOf]; omega
        · have qE : (L[k].toList == [101, 114, 114, 111, 114]) = false := tE
          have qW : (L[k].toList == [119, 97, 114, 110, 105, 110, 103]) = true := tW
          have e1 : Hid (_ = _) := cnt_no isE L k hlt (tE)
          have e2 : Hid (_ = _) := cnt_yes isW L k hlt (tW)
          have e3 : Hid (_ = _) := cnt_no isN L k hlt (isW_N _ tW)
          clear tE tW
          go_wp2
          go_roundw
          case rel => exact ⟨k + 1, by omega, by go_num, by rw [e1.out, e2.out, e3.out]; exact (hI.set 1 _ rfl).alloc _⟩
          case measure => simp [intOf]; omega
      · have qE : (L[k].toList == [101, 114, 114, 111, 114]) = true := tE
        have e1 : Hid (_ = _) := cnt_yes isE L k hlt (tE)
        have e2 : Hid (_ = _) := cnt_no isW L k hlt (isE_W _ tE)
        have e3 : Hid (_ = _) := cnt_no isN L k hlt (isE_N _ tE)
        clear tE
        go_wp2
        go_roundw
        case rel => exact ⟨k + 1, by omega, by go_num, by rw [e1.out, e2.out, e3.out]; exact (hI.set 0 _ rfl).alloc _⟩
        case measure => simp [intOf]; omega
    · rw [List.take_of_length_le (by omega)] at hI h0 h1 h2
      have r0 := hI.r0
      have r1 := hI.r1
      have r2 := hI.r2
      have rf := hI.rf
      have hb := ((hI.bel.setCell (p := ⟨w.heap.size, 0, none⟩) (Nat.le_refl _) (.int .i64 (L.countP isE))).setCell (p := ⟨w.heap.size, 1, none⟩) (Nat.le_refl _) (.int .i64 (L.countP isW))).setCell (p := ⟨w.heap.size, 2, none⟩) (Nat.le_refl _) (.int .i64 (L.countP isN))
      clear hI hown hV
      go_wp2
      exact bodyPost_ret (v := .agg #[.int .i64 (L.countP isE), .int .i64 (L.countP isW), .int .i64 (L.countP isN)]) (by simp [results, Try.results15, go_sem, r0, r1, r2]) rfl ⟨rfl, hb⟩
end Go.Proofs.Qxb6003716a.fnExit
