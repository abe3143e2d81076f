import Derived.Test.Qxb6003809aDec
namespace Go.Proofs.Qxb6003809a
open Go.RowKit

/-- What owns bytes can be read as bytes. -/
theorem own_cells {w : World} {B n c : Nat} {a : Option Addr} {L : List Int} (h : w.ownsRow B 5 1 (.slice a n c) n (bv L)) (hn : L.length = n) :
    (n = 0 ∧ (a = none → c = 0)) ∨ ∃ g, a = some ⟨g, 0, none⟩ ∧ g < w.heap.size ∧ B ≤ g ∧ ∀ j (h : j < L.length), w.cell? ⟨g, j, none⟩ = some (.int .u8 L[j]) := by
  by_cases h0 : n = 0
  · refine .inl ⟨h0, fun e => ?_⟩
    rcases h.2 with ⟨h', _⟩ | ⟨g, cap, cur, h', _⟩
    · simp at h'; exact h'.2.2
    · subst e; simp at h'
  · right
    rcases h.2 with ⟨_, h'⟩ | ⟨g, cap, cur, h', hb, hg, _, _, _, ht⟩
    · exact absurd h' h0
    · simp at h'
      obtain ⟨rfl, rfl⟩ := h'
      refine ⟨g, rfl, lt_of_block hg, hb, fun j hj => ?_⟩
      rw [h.cellAt j (by omega)]
      simp [bv, hj]

theorem own_BS {w : World} {B c : Nat} {a : Option Addr} {L : List Int} (h : w.ownsRow B 5 1 (.slice a L.length c) L.length (bv L)) : BS w a c L := by
  rcases own_cells h rfl with ⟨h0, h1⟩ | ⟨g, rfl, hg, _, hc⟩
  · exact .inl ⟨List.length_eq_zero_iff.1 h0, h1⟩
  · exact .inr ⟨g, 0, rfl, hg, fun j hj => by rw [Nat.zero_add]; exact hc j hj⟩

theorem below_fr {w w1 : World} (h : Below w.heap.size w w1) : Fr w w1 [] := ⟨h.os, h.tape, h.output, h.size, fun k hk _ => h.block k hk⟩

theorem prefix_any (w : World) (g n c c2 B B2 : Nat) (a2 : Option Addr) (L M : List Int) (hn : L.length + M.length = n) (hm : n ≤ 1000000) (h1 : w.ownsRow B 5 1 (.slice (some ⟨g, 0, none⟩) n c) n (bv (L ++ M))) (h2 : w.ownsRow B2 5 1 (.slice a2 L.length c2) L.length (bv L)) :
    Calls Try.prog 14 #[.slice (some ⟨g, 0, none⟩) n c, .slice a2 L.length c2] w fun e w' => e = .returned (.bool true) ∧ Sm w w' := by
  rcases own_cells h2 rfl with ⟨h0, _⟩ | ⟨g2, rfl, _, _, hc2⟩
  · rw [h0]
    exact prefix_none w g n c c2 a2
  · refine prefix_some w g n c g2 c2 L (by omega) hm (fun j hj => ?_) hc2
    rw [h1.cellAt j (by omega)]
    rw [bv, List.map_append, List.getElem?_append_left (by simpa using hj)]
    simp [hj]

theorem own_cap {w : World} {B n c g : Nat} {xs : List Value} (h : w.ownsRow B 5 1 (.slice (some ⟨g, 0, none⟩) n c) n xs) : n ≤ c := by
  rcases h.2 with ⟨h', _⟩ | ⟨g', cap', cur, h', _, _, hc, _⟩
  · simp at h'
  · simp at h'
    obtain ⟨_, rfl⟩ := h'
    exact hc

set_option maxHeartbeats 400000 in
theorem bytes_true (w : World) (a : Option Addr) (n c : Nat) (u : Int) (h : n ≤ 1048576) :
    Calls Try.prog 16 #[.slice a n c, .int .u64 u] w fun e w' => e = .returned (.bool true) ∧ w' = w := by
  go_enter Try.func16, Try.ntmps16
  go_wp2
  go_ret
  exact ⟨rfl, rfl⟩

set_option maxHeartbeats 400000 in
theorem bytes_false (w : World) (a : Option Addr) (n c : Nat) (u : Int) (h : 1048576 < n) (h1 : n ≤ 9223372036854775807) :
    Calls Try.prog 16 #[.slice a n c, .int .u64 u] w fun e w' => e = .returned (.bool false) ∧ w' = w := by
  go_enter Try.func16, Try.ntmps16
  go_wp2
  go_ret
  exact ⟨rfl, rfl⟩

set_option maxHeartbeats 3200000 in
theorem uintLaw (a : Option Addr) (c : Nat) (L : List Int) (u : Int) (w : World) (h : BS w a c L) (hm : L.length ≤ 9223372036854775807) (h0 : 0 ≤ u) (h1 : u < 18446744073709551616) :
    Calls Try.prog 6 #[.slice a L.length c, .int .u64 u] w fun e w' => e = .returned (.bool true) ∧ Below w.heap.size w w' := by
  by_cases g0 : 1048576 < L.length
  · have HB := bytes_false w a L.length c u g0 hm
    go_enter Try.func6, Try.ntmps6
    go_wp2_with (go_at_call 16; refine HB.mono ?_; rintro e w' ⟨rfl, rfl⟩)
    go_ret
    exact ⟨rfl, Below.refl _ _⟩
  have HB := bytes_true w a L.length c u (by omega)
  by_cases g1 : 65536 < L.length
  · go_enter Try.func6, Try.ntmps6
    go_wp2_with (go_at_call 16; refine HB.mono ?_; rintro e w' ⟨rfl, rfl⟩)
    go_ret
    exact ⟨rfl, Below.refl _ _⟩
  have hcl := clone_any w a c L h (by omega)
  obtain ⟨l1, l2⟩ := enc_len u
  go_enter Try.func6, Try.ntmps6
  go_wp2_with fail
  refine HB.mono ?_
  rintro e w' ⟨rfl, rfl⟩
  go_wp2_with fail
  refine hcl.mono ?_
  rintro e w1 ⟨a1, c1, rfl, o1, f1⟩
  go_wp2_with fail
  refine (clone_any w1 a1 c1 L (own_BS o1) (by omega)).mono ?_
  rintro e w2 ⟨a2, c2, rfl, o2, f2⟩
  have o1b := (below_fr f2).own o1 (.inr (by simp))
  have f12 := f1.trans (f2.mono f1.size)
  go_wp2_with fail
  refine (zzAppendUint w2 w'.heap.size L.length c1 a1 (bv L) u (by omega) h0 h1 o1b f12.size).mono ?_
  rintro e w3 ⟨g3, c3, rfl, o3, f3⟩
  have o2b := f3.own o2 (by
    rcases own_cells o1 rfl with ⟨hz, _⟩ | ⟨g, rfl, hg, _, _⟩
    · rcases o2.2 with ⟨e2, _⟩ | ⟨q, cap, cur, e2, hb, _⟩
      · rw [e2]; exact .inl rfl
      · right
        rw [e2]
        intro hmem
        simp [Value.ownBlock] at hmem
        rcases o1.2 with ⟨e1, _⟩ | ⟨q1, _, _, e1, _, hq1, _⟩
        · simp at e1; obtain ⟨rfl, _⟩ := e1; simp at hmem
        · simp at e1; obtain ⟨rfl, _⟩ := e1
          have := lt_of_block hq1
          simp at hmem
          omega
    · rcases o2.2 with ⟨e2, _⟩ | ⟨q, cap, cur, e2, hb, _⟩
      · rw [e2]; exact .inl rfl
      · right
        rw [e2]
        simp [Value.ownBlock]
        omega)
  have f13 := f12.trans (f3.below f12.size (fun k hk => by
    refine own_baseV o1 k ?_
    have := List.mem_singleton.1 hk
    exact this.symm))
  rw [← bv_app] at o3
  go_wp2_with fail
  refine (prefix_any w3 g3 _ c3 c2 _ _ a2 L (enc u) rfl (by omega) o3 o2b).mono ?_
  rintro e w4 ⟨rfl, hsm⟩
  have hcd : ∀ j (h : j < (enc u).length), w4.cell? ⟨g3, L.length + j, none⟩ = some (.int .u8 (enc u)[j]) := fun j hj => by
    rw [hsm.cell, o3.cellAt (L.length + j) (by omega)]
    simp [bv, hj]
  have hcap : ¬ c3 = L.length := by
    have := own_cap o3
    omega
  clear o1 o1b o2 o2b o3 f3 f1 f2 f12 hcl HB h
  go_wp2_with fail
  refine (decode w4 g3 L.length _ u h0 h1 hcd).mono ?_
  rintro e w5 ⟨rfl, rfl⟩
  have f14 := f13.trans (hsm.below _)
  clear hcd f13 hsm
  go_wp2
  go_ret
  exact ⟨rfl, f14⟩
end Go.Proofs.Qxb6003809a
