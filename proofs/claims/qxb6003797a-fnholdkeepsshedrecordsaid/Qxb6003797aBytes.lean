import Derived.Test.Qxb6003797aSS
namespace Go.Proofs.Qxb6003797a
open Go.RowKit

/-- What the test of sizes leaves: of each list. -/
def B4Post (Ls : List (List ByteArray)) (w : World) (e : Ending) (w' : World) : Prop :=
  ∃ r : Bool, e = .returned (.bool r) ∧ w' = w ∧ (r = true → ∀ L ∈ Ls, L.length + tot L ≤ 1048576)
theorem b4_false (Ls : List (List ByteArray)) (w : World) : B4Post Ls w (.returned (.bool false)) w := ⟨false, rfl, rfl, by simp⟩
theorem b4_true (Ls : List (List ByteArray)) (w : World) (h : ∀ L ∈ Ls, L.length + tot L ≤ 1048576) : B4Post Ls w (.returned (.bool true)) w := ⟨true, rfl, rfl, fun _ => h⟩

set_option maxRecDepth 100000 in
set_option maxHeartbeats 4000000 in
theorem bytes32 (o : ByteArray) (x y : Int) (a1 : Option Addr) (c1 : Nat) (L1 : List ByteArray) (a2 : Option Addr) (c2 : Nat) (L2 : List ByteArray) (a3 : Option Addr) (c3 : Nat) (L3 : List ByteArray) (a4 : Option Addr) (c4 : Nat) (L4 : List ByteArray) (w : World)
    (h1 : SS w a1 c1 L1) (h2 : SS w a2 c2 L2) (h3 : SS w a3 c3 L3) (h4 : SS w a4 c4 L4) (m0 : o.size ≤ 9223372036854775807) (m1 : L1.length ≤ 9223372036854775807) (m2 : L2.length ≤ 9223372036854775807) (m3 : L3.length ≤ 9223372036854775807) (m4 : L4.length ≤ 9223372036854775807) :
    Calls Try.prog 32 #[.string o, .int .u64 x, .int .u64 y, .slice a1 L1.length c1, .slice a2 L2.length c2, .slice a3 L3.length c3, .slice a4 L4.length c4] w (B4Post [L1, L2, L3, L4] w) := by
  by_cases g0 : 1048576 < o.size
  · go_enter Try.func32, Try.ntmps32
    go_wp2
    go_ret
    exact b4_false _ _
  by_cases g1 : 1048576 < L1.length
  · go_enter Try.func32, Try.ntmps32
    go_wp2
    go_ret
    exact b4_false _ _
  by_cases g1b : 1048576 < o.size + L1.length
  · go_enter Try.func32, Try.ntmps32
    go_wp2
    go_ret
    exact b4_false _ _
  go_enter Try.func32, Try.ntmps32
  go_wp2
  go_loop [15, 16] (fun z i => ∃ k A : Nat, k ≤ L1.length ∧ i = .int .i64 k ∧ z = .int .i64 (A : Nat) ∧ A ≤ 1048576 ∧ L1.length + tot (L1.take k) ≤ A) (fun _ i => L1.length - (intOf i).toNat)
  case atStart => exact ⟨0, o.size + L1.length, Nat.zero_le _, rfl, by first | rfl | simp, by omega, by simp [tot]; try omega⟩
  case round =>
    obtain ⟨k, A, hk, rfl, rfl, hA, hb⟩ := hrel
    by_cases hlt : k < L1.length
    · obtain ⟨b, off, e, _, hc⟩ := h1.at (by omega)
      subst e
      have g := hc k hlt
      have HT : Hid (tot (L1.take (k + 1)) = tot (L1.take k) + L1[k].size) := tot_take L1 k hlt
      clear hc
      by_cases s1 : 1048576 < L1[k].size
      · go_wp2
        go_ret
        exact b4_false _ _
      by_cases s2 : 1048576 < A + L1[k].size
      · go_wp2
        go_ret
        exact b4_false _ _
      go_wp2
      go_round
      case rel => exact ⟨k + 1, A + L1[k].size, by omega, by go_num, by go_num, by omega, by rw [HT.out]; omega⟩
      case measure => simp [intOf]; omega
    · have e1 : L1.length + tot L1 ≤ 1048576 := by rw [List.take_of_length_le (by omega)] at hb; omega
      clear hb
      by_cases g2 : 1048576 < L2.length
      · go_wp2
        go_ret
        exact b4_false _ _
      by_cases g2b : 1048576 < A + L2.length
      · go_wp2
        go_ret
        exact b4_false _ _
      go_wp2
      go_loop [15, 17] (fun z i => ∃ k A : Nat, k ≤ L2.length ∧ i = .int .i64 k ∧ z = .int .i64 (A : Nat) ∧ A ≤ 1048576 ∧ L2.length + tot (L2.take k) ≤ A) (fun _ i => L2.length - (intOf i).toNat)
      case atStart => exact ⟨0, A + L2.length, Nat.zero_le _, rfl, by first | rfl | simp, by omega, by simp [tot]; try omega⟩
      case round =>
        obtain ⟨k, A, hk, rfl, rfl, hA, hb⟩ := hrel
        by_cases hlt : k < L2.length
        · obtain ⟨b, off, e, _, hc⟩ := h2.at (by omega)
          subst e
          have g := hc k hlt
          have HT : Hid (tot (L2.take (k + 1)) = tot (L2.take k) + L2[k].size) := tot_take L2 k hlt
          clear hc
          by_cases s1 : 1048576 < L2[k].size
          · go_wp2
            go_ret
            exact b4_false _ _
          by_cases s2 : 1048576 < A + L2[k].size
          · go_wp2
            go_ret
            exact b4_false _ _
          go_wp2
          go_round
          case rel => exact ⟨k + 1, A + L2[k].size, by omega, by go_num, by go_num, by omega, by rw [HT.out]; omega⟩
          case measure => simp [intOf]; omega
        · have e2 : L2.length + tot L2 ≤ 1048576 := by rw [List.take_of_length_le (by omega)] at hb; omega
          clear hb
          by_cases g3 : 1048576 < L3.length
          · go_wp2
            go_ret
            exact b4_false _ _
          by_cases g3b : 1048576 < A + L3.length
          · go_wp2
            go_ret
            exact b4_false _ _
          go_wp2
          go_loop [15, 18] (fun z i => ∃ k A : Nat, k ≤ L3.length ∧ i = .int .i64 k ∧ z = .int .i64 (A : Nat) ∧ A ≤ 1048576 ∧ L3.length + tot (L3.take k) ≤ A) (fun _ i => L3.length - (intOf i).toNat)
          case atStart => exact ⟨0, A + L3.length, Nat.zero_le _, rfl, by first | rfl | simp, by omega, by simp [tot]; try omega⟩
          case round =>
            obtain ⟨k, A, hk, rfl, rfl, hA, hb⟩ := hrel
            by_cases hlt : k < L3.length
            · obtain ⟨b, off, e, _, hc⟩ := h3.at (by omega)
              subst e
              have g := hc k hlt
              have HT : Hid (tot (L3.take (k + 1)) = tot (L3.take k) + L3[k].size) := tot_take L3 k hlt
              clear hc
              by_cases s1 : 1048576 < L3[k].size
              · go_wp2
                go_ret
                exact b4_false _ _
              by_cases s2 : 1048576 < A + L3[k].size
              · go_wp2
                go_ret
                exact b4_false _ _
              go_wp2
              go_round
              case rel => exact ⟨k + 1, A + L3[k].size, by omega, by go_num, by go_num, by omega, by rw [HT.out]; omega⟩
              case measure => simp [intOf]; omega
            · have e3 : L3.length + tot L3 ≤ 1048576 := by rw [List.take_of_length_le (by omega)] at hb; omega
              clear hb
              by_cases g4 : 1048576 < L4.length
              · go_wp2
                go_ret
                exact b4_false _ _
              by_cases g4b : 1048576 < A + L4.length
              · go_wp2
                go_ret
                exact b4_false _ _
              go_wp2
              go_loop [15, 19] (fun z i => ∃ k A : Nat, k ≤ L4.length ∧ i = .int .i64 k ∧ z = .int .i64 (A : Nat) ∧ A ≤ 1048576 ∧ L4.length + tot (L4.take k) ≤ A) (fun _ i => L4.length - (intOf i).toNat)
              case atStart => exact ⟨0, A + L4.length, Nat.zero_le _, rfl, by first | rfl | simp, by omega, by simp [tot]; try omega⟩
              case round =>
                obtain ⟨k, A, hk, rfl, rfl, hA, hb⟩ := hrel
                by_cases hlt : k < L4.length
                · obtain ⟨b, off, e, _, hc⟩ := h4.at (by omega)
                  subst e
                  have g := hc k hlt
                  have HT : Hid (tot (L4.take (k + 1)) = tot (L4.take k) + L4[k].size) := tot_take L4 k hlt
                  clear hc
                  by_cases s1 : 1048576 < L4[k].size
                  · go_wp2
                    go_ret
                    exact b4_false _ _
                  by_cases s2 : 1048576 < A + L4[k].size
                  · go_wp2
                    go_ret
                    exact b4_false _ _
                  go_wp2
                  go_round
                  case rel => exact ⟨k + 1, A + L4[k].size, by omega, by go_num, by go_num, by omega, by rw [HT.out]; omega⟩
                  case measure => simp [intOf]; omega
                · have e4 : L4.length + tot L4 ≤ 1048576 := by rw [List.take_of_length_le (by omega)] at hb; omega
                  clear hb
                  go_wp2
                  go_ret
                  exact b4_true _ _ (by intro L hL; simp at hL; rcases hL with rfl | rfl | rfl | rfl <;> assumption)
end Go.Proofs.Qxb6003797a
