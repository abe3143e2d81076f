import Derived.Test.Qxb6003716aSumm
namespace Go.Proofs.Qxb6003716a.fnExit
open Go.RowKit

set_option maxHeartbeats 800000 in
theorem summ_empty (ao : Option Addr) (cap : Nat) (w : World) :
    Calls Try.prog 15 #[.slice ao 0 cap] w fun e w' => e = .returned (.agg #[.int .i64 0, .int .i64 0, .int .i64 0]) ∧ Below w.heap.size w w' := by
  go_enter Try.func15, Try.ntmps15
  go_wp2
  refine wp_loop_rounds 1 ?_
  rw [rounds_succ]
  go_wp2
  refine bodyPost_ret (v := .agg #[.int .i64 0, .int .i64 0, .int .i64 0]) (by simp [results, Try.results15, go_sem]) rfl ⟨rfl, ?_⟩
  exact ((Below.refl _ _).alloc (Nat.le_refl _) _).alloc (by simp) _

/-- The exit status that counts of errors and warnings earn. -/
def status (u : Bool) (a b : Nat) : Int := if u then 3 else if 0 < a then 1 else if 0 < b then 2 else 0

set_option maxHeartbeats 800000 in
theorem exitOf_empty (u : Bool) (ao : Option Addr) (cap : Nat) (w : World) :
    Calls Try.prog 10 #[.bool u, .slice ao 0 cap] w fun e w' => e = .returned (.int .i64 (status u 0 0)) ∧ Below w.heap.size w w' := by
  cases u
  all_goals
    go_enter Try.func10, Try.ntmps10
    go_wp2_with (first | (go_at_call 16; refine (verd_empty ao cap _).mono ?_; rintro e w1 ⟨rfl, hb1⟩) | (go_at_call 15; refine (summ_empty _ _ _).mono ?_; rintro e w2 ⟨rfl, hb2⟩) | go_in)
    go_ret
    refine ⟨rfl, ?_⟩
    have h1 := hb1.size
    exact (hb1.trans (hb2.mono h1)).alloc (by have := hb2.size; omega) _

theorem st_u (a b : Nat) : 3 = status true a b := rfl
theorem st_e (a b : Nat) (h : 0 < a) : 1 = status false a b := by simp [status, h]
theorem st_w (a b : Nat) (h : ¬ 0 < a) (h2 : 0 < b) : 2 = status false a b := by simp [status, h, h2]
theorem st_o (a b : Nat) (h : ¬ 0 < a) (h2 : ¬ 0 < b) : 0 = status false a b := by simp [status, h, h2]
theorem ret_int {k : IntKind} {a b : Int} (h : a = b) : Ending.returned (.int k a) = .returned (.int k b) := by rw [h]

set_option maxHeartbeats 1600000 in
theorem exitOf_some (u : Bool) (b off cap : Nat) (L : List ByteArray) (w : World) (hL : L.length ≤ 1048576) (hbw : b < w.heap.size)
    (hc : ∀ j (h : j < L.length), w.cell? ⟨b, off + j, none⟩ = some (.string L[j])) :
    Calls Try.prog 10 #[.bool u, .slice (some ⟨b, off, none⟩) L.length cap] w fun e w' => e = .returned (.int .i64 (status u (L.countP isE) (L.countP isW))) ∧ Below w.heap.size w w' := by
  have hcase : (u = true) ∨ (u = false ∧ 0 < L.countP isE) ∨ (u = false ∧ ¬ 0 < L.countP isE ∧ 0 < L.countP isW) ∨ (u = false ∧ ¬ 0 < L.countP isE ∧ ¬ 0 < L.countP isW) := by
    cases u
    · by_cases hE : 0 < L.countP isE
      · exact .inr (.inl ⟨rfl, hE⟩)
      · by_cases hW : 0 < L.countP isW
        · exact .inr (.inr (.inl ⟨rfl, hE, hW⟩))
        · exact .inr (.inr (.inr ⟨rfl, hE, hW⟩))
    · exact .inl rfl
  rcases hcase with rfl | ⟨rfl, hE⟩ | ⟨rfl, hE, hW⟩ | ⟨rfl, hE, hW⟩
  all_goals
    go_enter Try.func10, Try.ntmps10
    go_wp2_with (first | (go_at_call 16; refine (verd_some b off cap L _ hL hbw hc).mono ?_; rintro e w1 ⟨rfl, ⟨xs, hown, hV⟩, hb1⟩) | (go_at_call 15; refine (summ_some _ _ L xs _ hL (by have := (hown.lt _ rfl).2; exact this) hown hV).mono ?_; rintro e w2 ⟨rfl, hb2⟩) | go_in)
    go_ret
    refine ⟨ret_int (by first | exact st_u _ _ | exact st_e _ _ hE | exact st_w _ _ hE hW | exact st_o _ _ hE hW), ?_⟩
    have h1 := hb1.size
    exact (hb1.trans (hb2.mono h1)).alloc (by have := hb2.size; omega) _
end Go.Proofs.Qxb6003716a.fnExit
