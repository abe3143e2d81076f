import Derived.Test.Qxb6003716aExit
namespace Go.Proofs.Qxb6003716a.fnExit
open Go.RowKit

/-- The gravest rank so far. -/
def GR (G : Int) (a b : Nat) : Prop := (0 < a ∧ G = 2) ∨ (a = 0 ∧ 0 < b ∧ G = 1) ∨ (a = 0 ∧ b = 0 ∧ G = 0)

theorem gr_e {G : Int} {a b : Nat} (_h : GR G a b) : GR 2 (a + 1) b := .inl ⟨by omega, rfl⟩
theorem gr_w1 {G : Int} {a b : Nat} (h : GR G a b) (hG : G < 1) : GR 1 a (b + 1) := by
  rcases h with ⟨h, rfl⟩ | ⟨h, h2, rfl⟩ | ⟨h, h2, rfl⟩
  · omega
  · omega
  · exact .inr (.inl ⟨h, by omega, rfl⟩)
theorem gr_w2 {G : Int} {a b : Nat} (h : GR G a b) (hG : 1 ≤ G) : GR G a (b + 1) := by
  rcases h with ⟨h, rfl⟩ | ⟨h, h2, rfl⟩ | ⟨h, h2, rfl⟩
  · exact .inl ⟨h, rfl⟩
  · exact .inr (.inl ⟨h, by omega, rfl⟩)
  · omega

theorem clone_e (ao : Option Addr) (cap : Nat) (w : World) (hnil : ao = none → cap = 0) :
    Calls Try.prog 9 #[.slice ao 0 cap] w fun e w' => (∃ ao' : Option Addr, e = .returned (.slice ao' 0 0)) ∧ Below w.heap.size w w' := by
  cases ao with
  | none => rw [hnil rfl]; exact (clone_nil w).mono fun e w' ⟨h, h'⟩ => ⟨⟨none, h⟩, by subst h'; exact Below.refl _ _⟩
  | some a => exact (clone_empty a cap w).mono fun e w' ⟨h, h'⟩ => ⟨⟨_, h⟩, h'⟩

set_option maxHeartbeats 1600000 in
theorem law_empty (u : Bool) (ao : Option Addr) (cap : Nat) (w : World) (hnil : ao = none → cap = 0) :
    Calls Try.prog 3 #[.bool u, .slice ao 0 cap] w fun e w' => e = .returned (.bool true) ∧ Below w.heap.size w w' := by
  cases u
  all_goals
    go_enter Try.func3, Try.ntmps3
    go_wp2_with (first | (go_at_call 7; refine (bytes_none _ _ _ _).mono ?_; rintro e w' ⟨rfl, rfl⟩) | (go_at_call 8; refine (strBytes_none _ _ _).mono ?_; rintro e w' ⟨rfl, rfl⟩) | (go_at_call 9; refine (clone_e _ _ _ hnil).mono ?_; rintro e w1 ⟨⟨ao1, rfl⟩, hb1⟩))
    refine wp_loop_rounds 1 ?_
    rw [rounds_succ]
    go_wp2_with (go_at_call 10; refine (exitOf_empty _ _ _ _).mono ?_; rintro e w2 ⟨rfl, hb2⟩)
    go_ret
    exact ⟨rfl, hb1.trans (hb2.mono hb1.size)⟩

theorem exitOf_is (u : Bool) (b off cap : Nat) (L : List ByteArray) (w : World) (hL : L.length ≤ 1048576) (hbw : b < w.heap.size)
    (hc : ∀ j (h : j < L.length), w.cell? ⟨b, off + j, none⟩ = some (.string L[j])) (v : Int) (hv : v = status u (L.countP isE) (L.countP isW)) :
    Calls Try.prog 10 #[.bool u, .slice (some ⟨b, off, none⟩) L.length cap] w fun e w' => e = .returned (.int .i64 v) ∧ Below w.heap.size w w' := by
  subst hv
  exact exitOf_some u b off cap L w hL hbw hc

set_option maxHeartbeats 3200000 in
theorem law_some (u : Bool) (b off cap : Nat) (L : List ByteArray) (w : World) (hL : L.length ≤ 9223372036854775807) (hbw : b < w.heap.size)
    (hc : ∀ j (h : j < L.length), w.cell? ⟨b, off + j, none⟩ = some (.string L[j])) :
    Calls Try.prog 3 #[.bool u, .slice (some ⟨b, off, none⟩) L.length cap] w fun e w' => e = .returned (.bool true) ∧ Below w.heap.size w w' := by
  by_cases hbig : 65536 < L.length
  · go_enter Try.func3, Try.ntmps3
    go_wp2_with (go_at_call 7; refine (bytes_some _ b off cap L _ hL hc).mono ?_; rintro e w' ⟨r, rfl, rfl, hr⟩; clear hr; cases r)
    all_goals (go_ret; exact ⟨rfl, Below.refl _ _⟩)
  · go_enter Try.func3, Try.ntmps3
    go_wp2_with fail
    refine (bytes_some _ b off cap L _ hL hc).mono ?_
    rintro e w' ⟨r, rfl, rfl, hr⟩
    cases r
    · go_wp2
      go_ret
      exact ⟨rfl, Below.refl _ _⟩
    have hT := hr rfl
    clear hr
    by_cases hsz : 1048576 < 16 * L.length + tot L
    · go_wp2_with (go_at_call 8; refine (strBytes_some b off cap L _ hT hc).mono ?_; rintro e w' ⟨rfl, rfl⟩)
      go_ret
      exact ⟨rfl, Below.refl _ _⟩
    go_wp2_with (first | (go_at_call 8; refine (strBytes_some b off cap L _ hT hc).mono ?_; rintro e w' ⟨rfl, rfl⟩) | (go_at_call 9; refine (clone_some b off cap L _ (by omega) hbw hc).mono ?_; rintro e w1 ⟨rfl, hown, hb1⟩))
    have hcc : ∀ j (h : j < L.length), w1.cell? ⟨w'.heap.size, 0 + j, none⟩ = some (.string L[j]) := by
      intro j h
      rw [Nat.zero_add, hown.cellAt j (by omega)]
      simp [h]
    have hbw1 : w'.heap.size < w1.heap.size := (hown.lt _ rfl).2
    clear hown hc hbw
    go_loop [5, 6] (fun z i => ∃ (k : Nat) (G : Int), k ≤ L.length ∧ i = .int .i64 k ∧ z = .int .i64 G ∧ GR G ((L.take k).countP isE) ((L.take k).countP isW)) (fun _ i => L.length - (intOf i).toNat)
    case atStart => exact ⟨0, 0, Nat.zero_le _, rfl, rfl, .inr (.inr ⟨rfl, rfl, rfl⟩)⟩
    case round =>
      obtain ⟨k, G, hk, rfl, rfl, hG⟩ := hrel
      by_cases hlt : k < L.length
      · have c0 := hcc k hlt
        rw [Nat.zero_add] at c0
        clear hcc
        cases tE : isE L[k]
        · cases tW : isW L[k]
          · have qE : (L[k].toList == [101, 114, 114, 111, 114]) = false := tE
            have qW : (L[k].toList == [119, 97, 114, 110, 105, 110, 103]) = false := tW
            have H : GR G ((L.take (k + 1)).countP isE) ((L.take (k + 1)).countP isW) := by rw [cnt_no isE L k hlt tE, cnt_no isW L k hlt tW]; exact hG
            clear hG tE tW
            go_wp2
            go_round
            case rel => exact ⟨k + 1, G, by omega, by go_num, rfl, H⟩
            case measure => simp [intOf]; omega
          · have qE : (L[k].toList == [101, 114, 114, 111, 114]) = false := tE
            have qW : (L[k].toList == [119, 97, 114, 110, 105, 110, 103]) = true := tW
            by_cases hG1 : G < 1
            · have H : GR 1 ((L.take (k + 1)).countP isE) ((L.take (k + 1)).countP isW) := by rw [cnt_no isE L k hlt tE, cnt_yes isW L k hlt tW]; exact gr_w1 hG hG1
              clear hG tE tW
              go_wp2
              go_round
              case rel => exact ⟨k + 1, 1, by omega, by go_num, rfl, H⟩
              case measure => simp [intOf]; omega
            · have H : GR G ((L.take (k + 1)).countP isE) ((L.take (k + 1)).countP isW) := by rw [cnt_no isE L k hlt tE, cnt_yes isW L k hlt tW]; exact gr_w2 hG (by omega)
              clear hG tE tW
              go_wp2
              go_round
              case rel => exact ⟨k + 1, G, by omega, by go_num, rfl, H⟩
              case measure => simp [intOf]; omega
        · have qE : (L[k].toList == [101, 114, 114, 111, 114]) = true := tE
          have H : GR 2 ((L.take (k + 1)).countP isE) ((L.take (k + 1)).countP isW) := by rw [cnt_yes isE L k hlt tE, cnt_no isW L k hlt (isE_W _ tE)]; exact gr_e hG
          clear hG tE
          go_wp2
          go_round
          case rel => exact ⟨k + 1, 2, by omega, by go_num, rfl, H⟩
          case measure => simp [intOf]; omega
      · rw [List.take_of_length_le (by omega)] at hG
        cases u
        · rcases hG with ⟨h1, h2⟩ | ⟨h1, h2, h3⟩ | ⟨h1, h2, h3⟩
          · have hv : 1 = status false (L.countP isE) (L.countP isW) := st_e _ _ h1
            have HX := fun w hbw hc => exitOf_is false w'.heap.size 0 L.length L w (by omega) hbw hc 1 hv
            clear hv h1
            go_wp2_with (go_at_call 10; refine (HX _ hbw1 hcc).mono ?_; rintro e w2 ⟨rfl, hb2⟩)
            go_ret
            exact ⟨rfl, hb1.trans (hb2.mono hb1.size)⟩
          · have hv : 2 = status false (L.countP isE) (L.countP isW) := st_w _ _ (by omega) h2
            have HX := fun w hbw hc => exitOf_is false w'.heap.size 0 L.length L w (by omega) hbw hc 2 hv
            clear hv h1 h2
            go_wp2_with (go_at_call 10; refine (HX _ hbw1 hcc).mono ?_; rintro e w2 ⟨rfl, hb2⟩)
            go_ret
            exact ⟨rfl, hb1.trans (hb2.mono hb1.size)⟩
          · have hv : 0 = status false (L.countP isE) (L.countP isW) := st_o _ _ (by omega) (by omega)
            have HX := fun w hbw hc => exitOf_is false w'.heap.size 0 L.length L w (by omega) hbw hc 0 hv
            clear hv h1 h2
            go_wp2_with (go_at_call 10; refine (HX _ hbw1 hcc).mono ?_; rintro e w2 ⟨rfl, hb2⟩)
            go_ret
            exact ⟨rfl, hb1.trans (hb2.mono hb1.size)⟩
        · have hv : 3 = status true (L.countP isE) (L.countP isW) := st_u _ _
          have HX := fun w hbw hc => exitOf_is true w'.heap.size 0 L.length L w (by omega) hbw hc 3 hv
          clear hv hG
          go_wp2_with (go_at_call 10; refine (HX _ hbw1 hcc).mono ?_; rintro e w2 ⟨rfl, hb2⟩)
          go_ret
          exact ⟨rfl, hb1.trans (hb2.mono hb1.size)⟩
end Go.Proofs.Qxb6003716a.fnExit
