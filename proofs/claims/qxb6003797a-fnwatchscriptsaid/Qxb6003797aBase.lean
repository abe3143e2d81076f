import Derived.Test.Qxb6003797aRows
import Derived.WalkKit
import Derived.WalkLawsBesides
import Derived.RowKit3
import Derived.Lib.SliceRun
import Derived.Laws.CopyOwn
namespace Go.Proofs.Qxb6003797a
open Go.RowKit

/-- The sizes of the strings, added up. -/
def tot (L : List ByteArray) : Nat := (L.map ByteArray.size).sum

theorem tot_take (L : List ByteArray) (k : Nat) (h : k < L.length) : tot (L.take (k + 1)) = tot (L.take k) + L[k].size := by
  unfold tot
  rw [List.take_succ_eq_append_getElem h, List.map_append, List.sum_append]
  simp

theorem tot_take_le (L : List ByteArray) (k : Nat) : tot (L.take k) ≤ tot L := by
  unfold tot
  rw [List.map_take]
  conv => rhs; rw [← List.take_append_drop k (L.map ByteArray.size), List.sum_append]
  omega

theorem size_le_tot (L : List ByteArray) (k : Nat) (h : k < L.length) : L[k].size ≤ tot L := by
  have h1 := tot_take L k h
  have h2 := tot_take_le L (k + 1)
  omega

/-- What the test of sizes leaves. -/
def BytesPost (L : List ByteArray) (w : World) (e : Ending) (w' : World) : Prop :=
  ∃ r : Bool, e = .returned (.bool r) ∧ w' = w ∧ (r = true → L.length + tot L ≤ 1048576)

theorem bp_false (L : List ByteArray) (w : World) : BytesPost L w (.returned (.bool false)) w := ⟨false, rfl, rfl, by simp⟩
theorem bp_true (L : List ByteArray) (w : World) (h : L.length + tot L ≤ 1048576) : BytesPost L w (.returned (.bool true)) w := ⟨true, rfl, rfl, fun _ => h⟩

set_option maxHeartbeats 400000 in
theorem bytes_none (ao : Option Addr) (cap : Nat) (w : World) :
    Calls Try.prog 7 #[.slice ao 0 cap] w fun e w' => e = .returned (.bool true) ∧ w' = w := by
  go_enter Try.func7, Try.ntmps7
  go_wp2
  refine wp_loop_rounds 1 ?_
  rw [rounds_succ]
  go_wp2
  go_ret
  exact ⟨rfl, rfl⟩

set_option maxHeartbeats 800000 in
theorem bytes_some (b off cap : Nat) (L : List ByteArray) (w : World) (hL : L.length ≤ 9223372036854775807)
    (hc : ∀ j (h : j < L.length), w.cell? ⟨b, off + j, none⟩ = some (.string L[j])) :
    Calls Try.prog 7 #[.slice (some ⟨b, off, none⟩) L.length cap] w (BytesPost L w) := by
  by_cases hbig : 1048576 < L.length
  · go_enter Try.func7, Try.ntmps7
    go_wp2
    go_ret
    exact bp_false _ _
  go_enter Try.func7, Try.ntmps7
  go_wp2
  go_loop [3, 4] (fun z i => ∃ k : Nat, k ≤ L.length ∧ i = .int .i64 k ∧ z = .int .i64 (L.length + tot (L.take k) : Nat) ∧ L.length + tot (L.take k) ≤ 1048576) (fun _ i => L.length - (intOf i).toNat)
  case atStart => exact ⟨0, Nat.zero_le _, rfl, by simp [tot], by simp [tot]; omega⟩
  case round =>
    obtain ⟨k, hk, rfl, rfl, hb⟩ := hrel
    by_cases hlt : k < L.length
    · have g := hc k hlt
      have HT : Hid (tot (L.take (k + 1)) = tot (L.take k) + L[k].size) := tot_take L k hlt
      clear hc
      go_wp2
      · go_ret; exact bp_false _ _
      · go_ret; exact bp_false _ _
      · have h2 : (L.length : Int) + tot (L.take k) + L[k].size ≤ 1048576 := by assumption
        go_round
        case rel => exact ⟨k + 1, by omega, by go_num, by rw [HT.out]; go_num, by rw [HT.out]; omega⟩
        case measure => simp [intOf]; omega
    · have hE : Hid (L.length + tot L ≤ 1048576) := by rw [List.take_of_length_le (by omega)] at hb; exact hb
      go_wp2
      go_ret
      exact bp_true _ _ hE.out

set_option maxHeartbeats 400000 in
theorem strBytes_none (ao : Option Addr) (cap : Nat) (w : World) :
    Calls Try.prog 8 #[.slice ao 0 cap] w fun e w' => e = .returned (.int .i64 0) ∧ w' = w := by
  go_enter Try.func8, Try.ntmps8
  go_wp2
  refine wp_loop_rounds 1 ?_
  rw [rounds_succ]
  go_wp2
  go_ret
  exact ⟨rfl, rfl⟩

set_option maxHeartbeats 800000 in
theorem strBytes_some (b off cap : Nat) (L : List ByteArray) (w : World) (hL : L.length + tot L ≤ 1048576)
    (hc : ∀ j (h : j < L.length), w.cell? ⟨b, off + j, none⟩ = some (.string L[j])) :
    Calls Try.prog 8 #[.slice (some ⟨b, off, none⟩) L.length cap] w fun e w' => e = .returned (.int .i64 (16 * L.length + tot L : Nat)) ∧ w' = w := by
  go_enter Try.func8, Try.ntmps8
  go_wp2
  go_loop [3, 4] (fun z i => ∃ k : Nat, k ≤ L.length ∧ i = .int .i64 k ∧ z = .int .i64 (16 * k + tot (L.take k) : Nat)) (fun _ i => L.length - (intOf i).toNat)
  case atStart => exact ⟨0, Nat.zero_le _, rfl, by simp [tot]⟩
  case round =>
    obtain ⟨k, hk, rfl, rfl⟩ := hrel
    have hb : tot (L.take k) ≤ tot L := tot_take_le L k
    by_cases hlt : k < L.length
    · have g := hc k hlt
      have HT : Hid (tot (L.take (k + 1)) = tot (L.take k) + L[k].size) := tot_take L k hlt
      have hz := size_le_tot L k hlt
      clear hc
      go_wp2
      go_round
      case rel => exact ⟨k + 1, by omega, by go_num, by rw [HT.out]; go_num⟩
      case measure => simp [intOf]; omega
    · have hE : Hid ((16 * k + tot (L.take k) : Nat) = 16 * L.length + tot L) := by
        have : k = L.length := by omega
        subst this
        rw [List.take_length]; rfl
      go_wp2
      go_ret
      exact ⟨by have := hE.out; go_num, rfl⟩

theorem info9 : (Try.prog.info? 9).map (fun i => (i.zero, i.size, i.bytes)) = some (some (.string ⟨#[]⟩), 1, 16) := by kernel_rfl
theorem size9 : (Try.prog.info? 9).map (·.size) = some 1 := by kernel_rfl

set_option maxHeartbeats 400000 in
theorem clone_nil (w : World) :
    Calls Try.prog 9 #[.slice none 0 0] w fun e w' => e = .returned (.slice none 0 0) ∧ w' = w := by
  have hq := fun w a n c => Lib.run_eql_slice_nil (P := Try.prog) w 22 9 a n c 0 0 Try.underlying22
  go_enter Try.func9, Try.ntmps9
  go_wp2
  go_ret
  exact ⟨rfl, rfl⟩

/-- 'make' of strings, by the row: the block that is made. -/
theorem own_block {w : World} {B e g n : Nat} {z : Value} (h : w.ownsRow B e 1 (.slice (some ⟨g, 0, none⟩) n n) n (madeCells #[z] (n * 1)).toList) :
    w.heap[g]? = some (.cells (List.replicate n z).toArray e (0, 0)) := by
  rcases h.2 with ⟨h', _⟩ | ⟨g', cap', cur, h', _, hg, _, _, hcs, htake⟩
  · simp at h'
  · simp only [Value.slice.injEq, Option.some.injEq, Addr.mk.injEq, and_true, true_and] at h'
    obtain ⟨rfl, rfl⟩ := h'
    rw [hg]
    have e1 : cur.toList = List.replicate n z := by
      have := htake
      rw [List.take_of_length_le (by simp; omega), Nat.mul_one, toList_madeCells_one] at this
      exact this
    rw [← e1]

set_option maxHeartbeats 400000 in
theorem clone_empty (a : Addr) (cap : Nat) (w : World) :
    Calls Try.prog 9 #[.slice (some a) 0 cap] w fun e w' => e = .returned (.slice (some ⟨w.heap.size, 0, none⟩) 0 0) ∧ Below w.heap.size w w' := by
  have hq := fun w a n c => Lib.run_eql_slice_nil (P := Try.prog) w 22 9 a n c 0 0 Try.underlying22
  have hcp := fun w dp sp dc sc => run_copy_none (P := Try.prog) w 22 22 3 9 dp sp 0 dc 0 sc Try.underlying22 size9 rfl
  obtain ⟨i0, hi, hz0, hz1, hz2⟩ := info_parts info9
  go_enter Try.func9, Try.ntmps9
  go_wp2_with (at_make; refine wpList_make_full _ rfl _ _ 22 rfl w.heap.size 9 i0 _ 1 Try.underlying22 hi hz0 hz1 _ _ _ _ 0 rfl rfl rfl rfl (by omega) (by unfold maxLen; omega) (Nat.le_refl _) ?_; intro w1 hown hgrow)
  go_ret
  exact ⟨rfl, (Below.refl _ _).grown hgrow (Nat.le_refl _) (by simp)⟩

theorem block_own {w : World} {B e g n : Nat} {xs : List Value} (hx : xs.length = n) (hn : n ≤ maxLen) (hB : B ≤ g) (h : w.heap[g]? = some (.cells xs.toArray e (0, 0))) :
    w.ownsRow B e 1 (.slice (some ⟨g, 0, none⟩) n n) n xs :=
  ⟨by simp [hx], .inr ⟨g, n, xs.toArray, rfl, hB, h, Nat.le_refl _, hn, by simp [hx], by rw [Nat.mul_one, List.take_of_length_le (by simp [hx])]⟩⟩

/-- 'copy' of a whole row of one-cell elements into a row that was just made. -/
theorem run_copy_whole {P : Program} {w w1 : World} {T E g b off cap : Nat} {z : Value} (hT : P.underlying T = some (.slice E)) (hs : (P.info? E).map (·.size) = some 1) (xs : List Value) (B : Nat) (hB : B ≤ g) (hn : xs.length ≤ maxLen)
    (hb1 : Below B w w1) (hblk : w1.heap[g]? = some (.cells (List.replicate xs.length z).toArray E (0, 0))) (hsrc : ∀ j v, xs[j]? = some v → w1.cell? ((⟨b, off, none⟩ : Addr).add j) = some v) (h1 : ∀ v ∈ xs, v.oneCell' = true) :
    ∃ w2, (Builtin.copy_ #[T, T] 3 #[.slice (some ⟨g, 0, none⟩) xs.length xs.length, .slice (some ⟨b, off, none⟩) xs.length cap]).run P w1 = .ok (.int .i64 xs.length) w2 ∧
      w2.ownsRow B E 1 (.slice (some ⟨g, 0, none⟩) xs.length xs.length) xs.length xs ∧ Below B w w2 := by
  have hrun := run_copy_row (P := P) w1 T T 3 E g 0 xs.length xs.length ⟨b, off, none⟩ xs.length cap _ E xs hT hs hblk (by simp) hsrc (by simp) h1
  refine ⟨_, hrun, ?_, below_setRow hb1 hB _⟩
  refine block_own rfl hn hB ?_
  rw [setRow_heap w1 g _ _ E _ hblk]
  simp

set_option maxHeartbeats 800000 in
theorem clone_some (b off cap : Nat) (L : List ByteArray) (w : World) (hL : L.length ≤ 1048576) (hbw : b < w.heap.size)
    (hc : ∀ j (h : j < L.length), w.cell? ⟨b, off + j, none⟩ = some (.string L[j])) :
    Calls Try.prog 9 #[.slice (some ⟨b, off, none⟩) L.length cap] w fun e w' => e = .returned (.slice (some ⟨w.heap.size, 0, none⟩) L.length L.length) ∧
      w'.ownsRow w.heap.size 9 1 (.slice (some ⟨w.heap.size, 0, none⟩) L.length L.length) L.length (L.map Value.string) ∧ Below w.heap.size w w' := by
  have hq := fun w a n c => Lib.run_eql_slice_nil (P := Try.prog) w 22 9 a n c 0 0 Try.underlying22
  obtain ⟨i0, hi, hz0, hz1, hz2⟩ := info_parts info9
  have CP : ∀ w1, w1.ownsRow w.heap.size 9 1 (.slice (some ⟨w.heap.size, 0, none⟩) L.length L.length) L.length (madeCells (Value.string ⟨#[]⟩).cells (L.length * 1)).toList → w.grownBy w1 none →
      ∃ w2, (Builtin.copy_ #[22, 22] 3 #[.slice (some ⟨w.heap.size, 0, none⟩) L.length L.length, .slice (some ⟨b, off, none⟩) L.length cap]).run Try.prog w1 = .ok (.int .i64 L.length) w2 ∧
        w2.ownsRow w.heap.size 9 1 (.slice (some ⟨w.heap.size, 0, none⟩) L.length L.length) L.length (L.map Value.string) ∧ Below w.heap.size w w2 := by
    intro w1 hown hgrow
    have hb1 : Below w.heap.size w w1 := (Below.refl _ _).grown hgrow (Nat.le_refl _) (by simp)
    have hblk := own_block hown
    have := run_copy_whole (P := Try.prog) (w := w) (w1 := w1) (T := 22) (E := 9) (g := w.heap.size) (b := b) (off := off) (cap := cap) (z := .string ⟨#[]⟩) Try.underlying22 size9 (L.map Value.string) w.heap.size (Nat.le_refl _) (by simp; unfold maxLen; omega) hb1 (by simpa using hblk)
      (by
        intro j v hv
        rw [Go.WideShapes.add_plain, (hb1.cell (p := ⟨b, off + j, none⟩) hbw)]
        rw [List.getElem?_map] at hv
        obtain ⟨s, hs, rfl⟩ := Option.map_eq_some_iff.1 hv
        obtain ⟨hj, rfl⟩ := List.getElem?_eq_some_iff.1 hs
        exact hc j hj)
      (by intro v hv; obtain ⟨s, _, rfl⟩ := List.mem_map.1 hv; rfl)
    simpa only [List.length_map] using this
  clear hc
  go_enter Try.func9, Try.ntmps9
  go_wp2_with (at_make; refine wpList_make_full _ rfl _ _ 22 rfl w.heap.size 9 i0 _ 1 Try.underlying22 hi hz0 hz1 _ _ _ _ L.length rfl rfl rfl rfl (by rw [hz2]; omega) (by unfold maxLen; omega) (Nat.le_refl _) ?_; intro w1 hown hgrow; obtain ⟨w2, hcp, hown2, hb2⟩ := CP w1 hown hgrow; clear CP)
  go_ret
  exact ⟨rfl, hown2, hb2⟩

theorem clone_e (ao : Option Addr) (cap : Nat) (w : World) (hnil : ao = none → cap = 0) :
    Calls Try.prog 9 #[.slice ao 0 cap] w fun e w' => (∃ ao' : Option Addr, e = .returned (.slice ao' 0 0)) ∧ Below w.heap.size w w' := by
  cases ao with
  | none => rw [hnil rfl]; exact (clone_nil w).mono fun e w' ⟨h, h'⟩ => ⟨⟨none, h⟩, by subst h'; exact Below.refl _ _⟩
  | some a => exact (clone_empty a cap w).mono fun e w' ⟨h, h'⟩ => ⟨⟨_, h⟩, h'⟩
end Go.Proofs.Qxb6003797a
