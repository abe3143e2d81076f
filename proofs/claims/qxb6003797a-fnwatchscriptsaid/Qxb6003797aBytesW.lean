import Derived.Test.Qxb6003797aSS
namespace Go.Proofs.Qxb6003797a
open Go.RowKit

/-- What the test of sizes leaves: of the names. -/
def BWPost (L : List ByteArray) (w : World) (e : Ending) (w' : World) : Prop := ∃ r : Bool, e = .returned (.bool r) ∧ w' = w ∧ (r = true → L.length + tot L ≤ 1048576)
theorem bw_false (L : List ByteArray) (w : World) : BWPost L w (.returned (.bool false)) w := ⟨false, rfl, rfl, by simp⟩

set_option maxRecDepth 100000 in
set_option maxHeartbeats 4000000 in
theorem bytes20 (a1 : Option Addr) (c1 : Nat) (L1 : List ByteArray) (a2 : Option Addr) (n2 c2 : Nat) (a3 : Option Addr) (n3 c3 : Nat) (a4 : Option Addr) (n4 c4 : Nat) (w : World)
    (h1 : SS w a1 c1 L1) (m1 : L1.length ≤ 9223372036854775807) (m2 : n2 ≤ 9223372036854775807) (m3 : n3 ≤ 9223372036854775807) (m4 : n4 ≤ 9223372036854775807) :
    Calls Try.prog 20 #[.slice a1 L1.length c1, .slice a2 n2 c2, .slice a3 n3 c3, .slice a4 n4 c4] w (BWPost L1 w) := by
  by_cases g1 : 1048576 < L1.length
  · go_enter Try.func20, Try.ntmps20
    go_wp2
    go_ret
    exact bw_false _ _
  go_enter Try.func20, Try.ntmps20
  go_wp2
  go_loop [9, 10] (fun z i => ∃ k A : Nat, k ≤ L1.length ∧ i = .int .i64 k ∧ z = .int .i64 (A : Nat) ∧ A ≤ 1048576 ∧ L1.length + tot (L1.take k) ≤ A) (fun _ i => L1.length - (intOf i).toNat)
  case atStart => exact ⟨0, L1.length, Nat.zero_le _, rfl, by first | rfl | simp, by omega, by simp [tot]⟩
  case round =>
    obtain ⟨k, A, hk, rfl, rfl, hA, hb⟩ := hrel
    by_cases hlt : k < L1.length
    · obtain ⟨b, off, e, _, hc⟩ := h1.at (by omega)
      subst e
      have g := hc k hlt
      have HT : Hid (tot (L1.take (k + 1)) = tot (L1.take k) + L1[k].size) := tot_take L1 k hlt
      clear hc
      by_cases s1 : 1048576 < L1[k].size
      · go_wp2
        go_ret
        exact bw_false _ _
      by_cases s2 : 1048576 < A + L1[k].size
      · go_wp2
        go_ret
        exact bw_false _ _
      go_wp2
      go_round
      case rel => exact ⟨k + 1, A + L1[k].size, by omega, by go_num, by go_num, by omega, by rw [HT.out]; omega⟩
      case measure => simp [intOf]; omega
    · have e1 : L1.length + tot L1 ≤ 1048576 := by rw [List.take_of_length_le (by omega)] at hb; omega
      have HT : BWPost L1 w (.returned (.bool true)) w := ⟨true, rfl, rfl, fun _ => e1⟩
      clear hb e1
      by_cases q2 : 1048576 < n2
      · go_wp2
        go_ret
        exact bw_false _ _
      by_cases q2b : 1048576 < A + n2
      · go_wp2
        go_ret
        exact bw_false _ _
      by_cases q3 : 1048576 < n3
      · go_wp2
        go_ret
        exact bw_false _ _
      by_cases q3b : 1048576 < A + n2 + n3
      · go_wp2
        go_ret
        exact bw_false _ _
      by_cases q4 : 1048576 < n4
      · go_wp2
        go_ret
        exact bw_false _ _
      by_cases q4b : 1048576 < A + n2 + n3 + n4
      · go_wp2
        go_ret
        exact bw_false _ _
      go_wp2
      go_ret
      exact HT
end Go.Proofs.Qxb6003797a
