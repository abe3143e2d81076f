import Derived.Test.Qxb6003716aRows
import Derived.WalkKit
import Derived.WalkLawsBesides
import Derived.RowKit3
namespace Go.Proofs.Qxb6003716a.fnExit
open Go.RowKit

/-- The sizes of the strings, added up. -/
def tot (L : List ByteArray) : Nat := (L.map ByteArray.size).sum

theorem tot_take (L : List ByteArray) (k : Nat) (h : k < L.length) : tot (L.take (k + 1)) = tot (L.take k) + L[k].size := by
  unfold tot
  rw [List.take_succ_eq_append_getElem h, List.map_append, List.sum_append]
  simp

theorem tot_take_le (L : List ByteArray) (k : Nat) : tot (L.take k) ≤ tot L := by
  unfold tot
  rw [List.map_take]
  conv => rhs; rw [← List.take_append_drop k (L.map ByteArray.size), List.sum_append]
  omega

theorem size_le_tot (L : List ByteArray) (k : Nat) (h : k < L.length) : L[k].size ≤ tot L := by
  have h1 := tot_take L k h
  have h2 := tot_take_le L (k + 1)
  omega

/-- What the test of sizes leaves. -/
def BytesPost (L : List ByteArray) (w : World) (e : Ending) (w' : World) : Prop :=
  ∃ r : Bool, e = .returned (.bool r) ∧ w' = w ∧ (r = true → L.length + tot L ≤ 1048576)

theorem bp_false (L : List ByteArray) (w : World) : BytesPost L w (.returned (.bool false)) w := ⟨false, rfl, rfl, by simp⟩
theorem bp_true (L : List ByteArray) (w : World) (h : L.length + tot L ≤ 1048576) : BytesPost L w (.returned (.bool true)) w := ⟨true, rfl, rfl, fun _ => h⟩

set_option maxHeartbeats 400000 in
theorem bytes_none (u : Bool) (ao : Option Addr) (cap : Nat) (w : World) :
    Calls Try.prog 7 #[.bool u, .slice ao 0 cap] w fun e w' => e = .returned (.bool true) ∧ w' = w := by
  go_enter Try.func7, Try.ntmps7
  go_wp2
  refine wp_loop_rounds 1 ?_
  rw [rounds_succ]
  go_wp2
  go_ret
  exact ⟨rfl, rfl⟩

set_option maxHeartbeats 800000 in
theorem bytes_some (u : Bool) (b off cap : Nat) (L : List ByteArray) (w : World) (hL : L.length ≤ 9223372036854775807)
    (hc : ∀ j (h : j < L.length), w.cell? ⟨b, off + j, none⟩ = some (.string L[j])) :
    Calls Try.prog 7 #[.bool u, .slice (some ⟨b, off, none⟩) L.length cap] w (BytesPost L w) := by
  by_cases hbig : 1048576 < L.length
  · go_enter Try.func7, Try.ntmps7
    go_wp2
    go_ret
    exact bp_false _ _
  go_enter Try.func7, Try.ntmps7
  go_wp2
  go_loop [5, 6] (fun z i => ∃ k : Nat, k ≤ L.length ∧ i = .int .i64 k ∧ z = .int .i64 (L.length + tot (L.take k) : Nat) ∧ L.length + tot (L.take k) ≤ 1048576) (fun _ i => L.length - (intOf i).toNat)
  case atStart => exact ⟨0, Nat.zero_le _, rfl, by simp [tot], by simp [tot]; omega⟩
  case round =>
    obtain ⟨k, hk, rfl, rfl, hb⟩ := hrel
    by_cases hlt : k < L.length
    · have g := hc k hlt
      have HT : Hid (tot (L.take (k + 1)) = tot (L.take k) + L[k].size) := tot_take L k hlt
      clear hc
      go_wp2
      · go_ret; exact bp_false _ _
      · go_ret; exact bp_false _ _
      · have h2 : (L.length : Int) + tot (L.take k) + L[k].size ≤ 1048576 := by assumption
        go_round
        case rel => exact ⟨k + 1, by omega, by go_num, by rw [HT.out]; go_num, by rw [HT.out]; omega⟩
        case measure => simp [intOf]; omega
    · have hE : Hid (L.length + tot L ≤ 1048576) := by rw [List.take_of_length_le (by omega)] at hb; exact hb
      go_wp2
      go_ret
      exact bp_true _ _ hE.out

set_option maxHeartbeats 400000 in
theorem strBytes_none (ao : Option Addr) (cap : Nat) (w : World) :
    Calls Try.prog 8 #[.slice ao 0 cap] w fun e w' => e = .returned (.int .i64 0) ∧ w' = w := by
  go_enter Try.func8, Try.ntmps8
  go_wp2
  refine wp_loop_rounds 1 ?_
  rw [rounds_succ]
  go_wp2
  go_ret
  exact ⟨rfl, rfl⟩

set_option maxHeartbeats 800000 in
theorem strBytes_some (b off cap : Nat) (L : List ByteArray) (w : World) (hL : L.length + tot L ≤ 1048576)
    (hc : ∀ j (h : j < L.length), w.cell? ⟨b, off + j, none⟩ = some (.string L[j])) :
    Calls Try.prog 8 #[.slice (some ⟨b, off, none⟩) L.length cap] w fun e w' => e = .returned (.int .i64 (16 * L.length + tot L : Nat)) ∧ w' = w := by
  go_enter Try.func8, Try.ntmps8
  go_wp2
  go_loop [3, 4] (fun z i => ∃ k : Nat, k ≤ L.length ∧ i = .int .i64 k ∧ z = .int .i64 (16 * k + tot (L.take k) : Nat)) (fun _ i => L.length - (intOf i).toNat)
  case atStart => exact ⟨0, Nat.zero_le _, rfl, by simp [tot]⟩
  case round =>
    obtain ⟨k, hk, rfl, rfl⟩ := hrel
    have hb : tot (L.take k) ≤ tot L := tot_take_le L k
    by_cases hlt : k < L.length
    · have g := hc k hlt
      have HT : Hid (tot (L.take (k + 1)) = tot (L.take k) + L[k].size) := tot_take L k hlt
      have hz := size_le_tot L k hlt
      clear hc
      go_wp2
      go_round
      case rel => exact ⟨k + 1, by omega, by go_num, by rw [HT.out]; go_num⟩
      case measure => simp [intOf]; omega
    · have hE : Hid ((16 * k + tot (L.take k) : Nat) = 16 * L.length + tot L) := by
        have : k = L.length := by omega
        subst this
        rw [List.take_length]; rfl
      go_wp2
      go_ret
      exact ⟨by have := hE.out; go_num, rfl⟩
end Go.Proofs.Qxb6003716a.fnExit
