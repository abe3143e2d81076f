import Derived.Test.Qxb6003797aSS
namespace Go.Proofs.Qxb6003797a
open Go.RowKit

/-- A slice of integers that came in: empty, or a row. -/
def IS (k : IntKind) (w : World) (a : Option Addr) (c : Nat) (L : List Int) : Prop :=
  (L = [] ∧ (a = none → c = 0)) ∨ ∃ b off, a = some ⟨b, off, none⟩ ∧ b < w.heap.size ∧ ∀ j (h : j < L.length), w.cell? ⟨b, off + j, none⟩ = some (.int k L[j])

/-- What a clone leaves. -/
def ICP (k : IntKind) (w : World) (L : List Int) (e : Ending) (w' : World) : Prop :=
  ∃ a c, e = .returned (.slice a L.length c) ∧ (0 < L.length → a = some ⟨w.heap.size, 0, none⟩ ∧ w.heap.size < w'.heap.size ∧ ∀ j (h : j < L.length), w'.cell? ⟨w.heap.size, j, none⟩ = some (.int k L[j])) ∧ Below w.heap.size w w'

theorem infoU8 : (Try.prog.info? 5).map (fun i => (i.zero, i.size, i.bytes)) = some (some (.int .u8 0), 1, 1) := by kernel_rfl
theorem sizeU8 : (Try.prog.info? 5).map (·.size) = some 1 := by kernel_rfl

set_option maxHeartbeats 800000 in
theorem cloneU8 (w : World) (a : Option Addr) (c : Nat) (L : List Int) (h : IS .u8 w a c L) (hL : L.length ≤ 1048576) :
    Calls Try.prog 16 #[.slice a L.length c] w (ICP .u8 w L) := by
  have hq := fun w a n c => Lib.run_eql_slice_nil (P := Try.prog) w 33 5 a n c 0 0 Try.underlying33
  obtain ⟨i0, hi, hz0, hz1, hz2⟩ := info_parts infoU8
  rcases h with ⟨rfl, hn⟩ | ⟨b, off, rfl, hbw, hc⟩
  · cases a with
    | none =>
      rw [hn rfl]
      go_enter Try.func16, Try.ntmps16
      go_wp2
      go_ret
      exact ⟨none, 0, rfl, fun h => by simp at h, Below.refl _ _⟩
    | some ad =>
      have hcp := fun w dp sp dc sc => run_copy_none (P := Try.prog) w 33 33 3 5 dp sp 0 dc 0 sc Try.underlying33 sizeU8 rfl
      go_enter Try.func16, Try.ntmps16
      go_wp2_with (at_make; refine wpList_make_full _ rfl _ _ 33 rfl w.heap.size 5 i0 _ 1 Try.underlying33 hi hz0 hz1 _ _ _ _ 0 rfl rfl rfl rfl (by omega) (by unfold maxLen; omega) (Nat.le_refl _) ?_; intro w1 hown hgrow)
      go_ret
      exact ⟨some ⟨w.heap.size, 0, none⟩, 0, rfl, fun h => by simp at h, (Below.refl _ _).grown hgrow (Nat.le_refl _) (by simp)⟩
  · have CP : ∀ w1, w1.ownsRow w.heap.size 5 1 (.slice (some ⟨w.heap.size, 0, none⟩) L.length L.length) L.length (madeCells (Value.int .u8 0).cells (L.length * 1)).toList → w.grownBy w1 none →
        ∃ w2, (Builtin.copy_ #[33, 33] 3 #[.slice (some ⟨w.heap.size, 0, none⟩) L.length L.length, .slice (some ⟨b, off, none⟩) L.length c]).run Try.prog w1 = .ok (.int .i64 L.length) w2 ∧
          w2.ownsRow w.heap.size 5 1 (.slice (some ⟨w.heap.size, 0, none⟩) L.length L.length) L.length (L.map (Value.int .u8)) ∧ Below w.heap.size w w2 := by
      intro w1 hown hgrow
      have hb1 : Below w.heap.size w w1 := (Below.refl _ _).grown hgrow (Nat.le_refl _) (by simp)
      have hblk := own_block hown
      have := run_copy_whole (P := Try.prog) (w := w) (w1 := w1) (T := 33) (E := 5) (g := w.heap.size) (b := b) (off := off) (cap := c) (z := .int .u8 0) Try.underlying33 sizeU8 (L.map (Value.int .u8)) w.heap.size (Nat.le_refl _) (by simp; unfold maxLen; omega) hb1 (by simpa using hblk)
        (by
          intro j v hv
          rw [Go.WideShapes.add_plain, (hb1.cell (p := ⟨b, off + j, none⟩) hbw)]
          rw [List.getElem?_map] at hv
          obtain ⟨s, hs, rfl⟩ := Option.map_eq_some_iff.1 hv
          obtain ⟨hj, rfl⟩ := List.getElem?_eq_some_iff.1 hs
          exact hc j hj)
        (by intro v hv; obtain ⟨s, _, rfl⟩ := List.mem_map.1 hv; rfl)
      simpa only [List.length_map] using this
    clear hc
    go_enter Try.func16, Try.ntmps16
    go_wp2_with (at_make; refine wpList_make_full _ rfl _ _ 33 rfl w.heap.size 5 i0 _ 1 Try.underlying33 hi hz0 hz1 _ _ _ _ L.length rfl rfl rfl rfl (by rw [hz2]; omega) (by unfold maxLen; omega) (Nat.le_refl _) ?_; intro w1 hown hgrow; obtain ⟨w2, hcp, hown2, hb2⟩ := CP w1 hown hgrow; clear CP)
    go_ret
    exact ⟨some ⟨w.heap.size, 0, none⟩, L.length, rfl, fun h0 => ⟨rfl, (hown2.lt _ rfl).2, fun j hj => by
      rw [hown2.cellAt j (by omega)]
      simp [hj]⟩, hb2⟩

theorem infoU32 : (Try.prog.info? 49).map (fun i => (i.zero, i.size, i.bytes)) = some (some (.int .u32 0), 1, 4) := by kernel_rfl
theorem sizeU32 : (Try.prog.info? 49).map (·.size) = some 1 := by kernel_rfl

set_option maxHeartbeats 800000 in
theorem cloneU32 (w : World) (a : Option Addr) (c : Nat) (L : List Int) (h : IS .u32 w a c L) (hL : L.length ≤ 1048576) :
    Calls Try.prog 21 #[.slice a L.length c] w (ICP .u32 w L) := by
  have hq := fun w a n c => Lib.run_eql_slice_nil (P := Try.prog) w 42 49 a n c 0 0 Try.underlying42
  obtain ⟨i0, hi, hz0, hz1, hz2⟩ := info_parts infoU32
  rcases h with ⟨rfl, hn⟩ | ⟨b, off, rfl, hbw, hc⟩
  · cases a with
    | none =>
      rw [hn rfl]
      go_enter Try.func21, Try.ntmps21
      go_wp2
      go_ret
      exact ⟨none, 0, rfl, fun h => by simp at h, Below.refl _ _⟩
    | some ad =>
      have hcp := fun w dp sp dc sc => run_copy_none (P := Try.prog) w 42 42 3 49 dp sp 0 dc 0 sc Try.underlying42 sizeU32 rfl
      go_enter Try.func21, Try.ntmps21
      go_wp2_with (at_make; refine wpList_make_full _ rfl _ _ 42 rfl w.heap.size 49 i0 _ 1 Try.underlying42 hi hz0 hz1 _ _ _ _ 0 rfl rfl rfl rfl (by omega) (by unfold maxLen; omega) (Nat.le_refl _) ?_; intro w1 hown hgrow)
      go_ret
      exact ⟨some ⟨w.heap.size, 0, none⟩, 0, rfl, fun h => by simp at h, (Below.refl _ _).grown hgrow (Nat.le_refl _) (by simp)⟩
  · have CP : ∀ w1, w1.ownsRow w.heap.size 49 1 (.slice (some ⟨w.heap.size, 0, none⟩) L.length L.length) L.length (madeCells (Value.int .u32 0).cells (L.length * 1)).toList → w.grownBy w1 none →
        ∃ w2, (Builtin.copy_ #[42, 42] 3 #[.slice (some ⟨w.heap.size, 0, none⟩) L.length L.length, .slice (some ⟨b, off, none⟩) L.length c]).run Try.prog w1 = .ok (.int .i64 L.length) w2 ∧
          w2.ownsRow w.heap.size 49 1 (.slice (some ⟨w.heap.size, 0, none⟩) L.length L.length) L.length (L.map (Value.int .u32)) ∧ Below w.heap.size w w2 := by
      intro w1 hown hgrow
      have hb1 : Below w.heap.size w w1 := (Below.refl _ _).grown hgrow (Nat.le_refl _) (by simp)
      have hblk := own_block hown
      have := run_copy_whole (P := Try.prog) (w := w) (w1 := w1) (T := 42) (E := 49) (g := w.heap.size) (b := b) (off := off) (cap := c) (z := .int .u32 0) Try.underlying42 sizeU32 (L.map (Value.int .u32)) w.heap.size (Nat.le_refl _) (by simp; unfold maxLen; omega) hb1 (by simpa using hblk)
        (by
          intro j v hv
          rw [Go.WideShapes.add_plain, (hb1.cell (p := ⟨b, off + j, none⟩) hbw)]
          rw [List.getElem?_map] at hv
          obtain ⟨s, hs, rfl⟩ := Option.map_eq_some_iff.1 hv
          obtain ⟨hj, rfl⟩ := List.getElem?_eq_some_iff.1 hs
          exact hc j hj)
        (by intro v hv; obtain ⟨s, _, rfl⟩ := List.mem_map.1 hv; rfl)
      simpa only [List.length_map] using this
    clear hc
    go_enter Try.func21, Try.ntmps21
    go_wp2_with (at_make; refine wpList_make_full _ rfl _ _ 42 rfl w.heap.size 49 i0 _ 1 Try.underlying42 hi hz0 hz1 _ _ _ _ L.length rfl rfl rfl rfl (by rw [hz2]; omega) (by unfold maxLen; omega) (Nat.le_refl _) ?_; intro w1 hown hgrow; obtain ⟨w2, hcp, hown2, hb2⟩ := CP w1 hown hgrow; clear CP)
    go_ret
    exact ⟨some ⟨w.heap.size, 0, none⟩, L.length, rfl, fun h0 => ⟨rfl, (hown2.lt _ rfl).2, fun j hj => by
      rw [hown2.cellAt j (by omega)]
      simp [hj]⟩, hb2⟩

theorem infoI64 : (Try.prog.info? 2).map (fun i => (i.zero, i.size, i.bytes)) = some (some (.int .i64 0), 1, 8) := by kernel_rfl
theorem sizeI64 : (Try.prog.info? 2).map (·.size) = some 1 := by kernel_rfl

set_option maxHeartbeats 800000 in
theorem cloneI64 (w : World) (a : Option Addr) (c : Nat) (L : List Int) (h : IS .i64 w a c L) (hL : L.length ≤ 1048576) :
    Calls Try.prog 15 #[.slice a L.length c] w (ICP .i64 w L) := by
  have hq := fun w a n c => Lib.run_eql_slice_nil (P := Try.prog) w 32 2 a n c 0 0 Try.underlying32
  obtain ⟨i0, hi, hz0, hz1, hz2⟩ := info_parts infoI64
  rcases h with ⟨rfl, hn⟩ | ⟨b, off, rfl, hbw, hc⟩
  · cases a with
    | none =>
      rw [hn rfl]
      go_enter Try.func15, Try.ntmps15
      go_wp2
      go_ret
      exact ⟨none, 0, rfl, fun h => by simp at h, Below.refl _ _⟩
    | some ad =>
      have hcp := fun w dp sp dc sc => run_copy_none (P := Try.prog) w 32 32 3 2 dp sp 0 dc 0 sc Try.underlying32 sizeI64 rfl
      go_enter Try.func15, Try.ntmps15
      go_wp2_with (at_make; refine wpList_make_full _ rfl _ _ 32 rfl w.heap.size 2 i0 _ 1 Try.underlying32 hi hz0 hz1 _ _ _ _ 0 rfl rfl rfl rfl (by omega) (by unfold maxLen; omega) (Nat.le_refl _) ?_; intro w1 hown hgrow)
      go_ret
      exact ⟨some ⟨w.heap.size, 0, none⟩, 0, rfl, fun h => by simp at h, (Below.refl _ _).grown hgrow (Nat.le_refl _) (by simp)⟩
  · have CP : ∀ w1, w1.ownsRow w.heap.size 2 1 (.slice (some ⟨w.heap.size, 0, none⟩) L.length L.length) L.length (madeCells (Value.int .i64 0).cells (L.length * 1)).toList → w.grownBy w1 none →
        ∃ w2, (Builtin.copy_ #[32, 32] 3 #[.slice (some ⟨w.heap.size, 0, none⟩) L.length L.length, .slice (some ⟨b, off, none⟩) L.length c]).run Try.prog w1 = .ok (.int .i64 L.length) w2 ∧
          w2.ownsRow w.heap.size 2 1 (.slice (some ⟨w.heap.size, 0, none⟩) L.length L.length) L.length (L.map (Value.int .i64)) ∧ Below w.heap.size w w2 := by
      intro w1 hown hgrow
      have hb1 : Below w.heap.size w w1 := (Below.refl _ _).grown hgrow (Nat.le_refl _) (by simp)
      have hblk := own_block hown
      have := run_copy_whole (P := Try.prog) (w := w) (w1 := w1) (T := 32) (E := 2) (g := w.heap.size) (b := b) (off := off) (cap := c) (z := .int .i64 0) Try.underlying32 sizeI64 (L.map (Value.int .i64)) w.heap.size (Nat.le_refl _) (by simp; unfold maxLen; omega) hb1 (by simpa using hblk)
        (by
          intro j v hv
          rw [Go.WideShapes.add_plain, (hb1.cell (p := ⟨b, off + j, none⟩) hbw)]
          rw [List.getElem?_map] at hv
          obtain ⟨s, hs, rfl⟩ := Option.map_eq_some_iff.1 hv
          obtain ⟨hj, rfl⟩ := List.getElem?_eq_some_iff.1 hs
          exact hc j hj)
        (by intro v hv; obtain ⟨s, _, rfl⟩ := List.mem_map.1 hv; rfl)
      simpa only [List.length_map] using this
    clear hc
    go_enter Try.func15, Try.ntmps15
    go_wp2_with (at_make; refine wpList_make_full _ rfl _ _ 32 rfl w.heap.size 2 i0 _ 1 Try.underlying32 hi hz0 hz1 _ _ _ _ L.length rfl rfl rfl rfl (by rw [hz2]; omega) (by unfold maxLen; omega) (Nat.le_refl _) ?_; intro w1 hown hgrow; obtain ⟨w2, hcp, hown2, hb2⟩ := CP w1 hown hgrow; clear CP)
    go_ret
    exact ⟨some ⟨w.heap.size, 0, none⟩, L.length, rfl, fun h0 => ⟨rfl, (hown2.lt _ rfl).2, fun j hj => by
      rw [hown2.cellAt j (by omega)]
      simp [hj]⟩, hb2⟩

end Go.Proofs.Qxb6003797a
