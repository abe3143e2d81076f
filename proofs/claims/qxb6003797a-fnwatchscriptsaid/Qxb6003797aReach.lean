import Derived.Test.Qxb6003797aSeen
namespace Go.Proofs.Qxb6003797a
open Go.RowKit

theorem str_eq {a b : ByteArray} (h : a = b) : (a.toList == b.toList) = true := by subst h; simp
theorem str_ne {a b : ByteArray} (h : a ≠ b) : (a.toList == b.toList) = false := by
  rw [beq_eq_false_iff_ne]
  intro e
  rw [ByteArray.toList_eq, ByteArray.toList_eq] at e
  exact h (WideShapes.bytes_inj e)

set_option maxHeartbeats 1600000 in
theorem reach_empty (ao : Option Addr) (cap : Nat) (w : World) (hnil : ao = none → cap = 0) :
    Calls Try.prog 3 #[.slice ao 0 cap] w fun e w' => e = .returned (.bool true) ∧ Below w.heap.size w w' := by
  go_enter Try.func3, Try.ntmps3
  go_wp2_with (first | (go_at_call 7; refine (bytes_none _ _ _).mono ?_; rintro e w' ⟨rfl, rfl⟩) | (go_at_call 8; refine (strBytes_none _ _ _).mono ?_; rintro e w' ⟨rfl, rfl⟩) | (go_at_call 9; refine (clone_e _ _ _ hnil).mono ?_; rintro e w1 ⟨⟨ao1, rfl⟩, hb1⟩) | (go_at_call 10; refine (newGraph _).mono ?_; rintro e w2 ⟨rfl, hG, hb2⟩))
  refine wp_loop_rounds 1 ?_
  rw [rounds_succ]
  go_wp2_with (go_at_call 12; refine (graphIds _ _ _ _ _ _ _ _ _ _ _ _ hG).mono ?_; rintro e w3 ⟨rfl, rfl⟩)
  refine wp_loop_rounds 1 ?_
  rw [rounds_succ]
  go_wp2_with (go_at_call 13; refine (graphSizes _ _ _ _ _ _ _ _ _ _ _ _ hG).mono ?_; rintro e w4 ⟨rfl, k4, rfl⟩)
  go_ret
  exact ⟨rfl, (hb1.trans (hb2.mono hb1.size)).trans ((Sm.drewN _ _).below _)⟩

set_option maxRecDepth 100000 in
set_option maxHeartbeats 3200000 in
theorem reach_some (b off cap : Nat) (L : List ByteArray) (w : World) (hL : L.length ≤ 9223372036854775807) (hbw : b < w.heap.size) (hLs : ∀ s ∈ L, s.size ≤ maxLen)
    (hc : ∀ j (h : j < L.length), w.cell? ⟨b, off + j, none⟩ = some (.string L[j])) :
    Calls Try.prog 3 #[.slice (some ⟨b, off, none⟩) L.length cap] w fun e w' => e = .returned (.bool true) ∧ Below w.heap.size w w' := by
  by_cases hbig : 256 < L.length
  · go_enter Try.func3, Try.ntmps3
    go_wp2_with (go_at_call 7; refine (bytes_some b off cap L _ hL hc).mono ?_; rintro e w' ⟨r, rfl, rfl, hr⟩; clear hr; cases r)
    all_goals (go_ret; exact ⟨rfl, Below.refl _ _⟩)
  · go_enter Try.func3, Try.ntmps3
    go_wp2_with fail
    refine (bytes_some b off cap L _ hL hc).mono ?_
    rintro e w' ⟨r, rfl, rfl, hr⟩
    cases r
    · go_wp2
      go_ret
      exact ⟨rfl, Below.refl _ _⟩
    have hT := hr rfl
    clear hr
    by_cases hsz : 1048576 < 16 * L.length + tot L
    · go_wp2_with (go_at_call 8; refine (strBytes_some b off cap L _ hT hc).mono ?_; rintro e w' ⟨rfl, rfl⟩)
      go_ret
      exact ⟨rfl, Below.refl _ _⟩
    go_wp2_with (first | (go_at_call 8; refine (strBytes_some b off cap L _ hT hc).mono ?_; rintro e w' ⟨rfl, rfl⟩) | (go_at_call 9; refine (clone_some b off cap L _ (by omega) hbw hc).mono ?_; rintro e w1 ⟨rfl, hown, hb1⟩) | (go_at_call 10; refine (newGraph _).mono ?_; rintro e w2 ⟨rfl, hG, hb2⟩))
    have hcc : ∀ wx, Below w1.heap.size w1 wx → ∀ j (h : j < L.length), wx.cell? ⟨w'.heap.size, j, none⟩ = some (.string L[j]) := by
      intro wx hx j h
      rw [hx.cell (p := ⟨w'.heap.size, j, none⟩) (hown.lt _ rfl).2, hown.cellAt j (by omega)]
      simp [h]
    have hC1 : w'.heap.size < w1.heap.size := (hown.lt _ rfl).2
    clear hown hc hbw hT hsz
    have hLI0 : LI w1 w2 w1.heap.size (w1.heap.size + 2) (w1.heap.size + 1) w1.heap.size 0 [] (.slice none 0 0) (.slice none 0 0) (.slice none 0 0) (.slice none 0 0) (.slice none 0 0) :=
      ⟨Nat.le_refl _, by simp, World.ownsRow_nil _ _ _ _, hG, .inl rfl, hb2, by omega⟩
    clear hG hb2
    go_loopw [4, 5] (fun v i wr => ∃ (k : Nat) (D : List ByteArray) (vI vB vH vW : Value), k ≤ L.length ∧ i = .int .i64 k ∧ LI w1 wr w1.heap.size (w1.heap.size + 2) (w1.heap.size + 1) w1.heap.size k D v vI vB vH vW ∧ ((D = [] ∧ ∃ a c, v = .slice a 0 c) ∨ ∃ g c, 0 < D.length ∧ v = .slice (some ⟨g, 0, none⟩) D.length c)) (fun _ i _ => L.length - (intOf i).toNat)
    case atStart => exact ⟨0, [], _, _, _, _, Nat.zero_le _, rfl, hLI0, .inl ⟨rfl, _, _, rfl⟩⟩
    case round =>
      clear hLI0
      obtain ⟨k, D, vI, vB, vH, vW, hk, rfl, hI, hv⟩ := hrel
      have hlen := hI.len
      by_cases hlt : k < L.length
      · have ck := hcc wr hI.bel k hlt
        have hszk : L[k].size ≤ maxLen := hLs _ (List.getElem_mem hlt)
        rcases hv with ⟨rfl, aD, cD, rfl⟩ | ⟨gD, cD, hD0, rfl⟩
        · have hnone : ix [] L[k] = none := rfl
          go_wp2_with fail
          refine wp_loop_rounds 1 ?_
          rw [rounds_succ]
          obtain ⟨i9, hi9, z90, z91, z92⟩ := info_parts info9
          go_wp2_with (first
            | (at_builtin; refine wpList_append_lies _ rfl (.tmp 53) (.tmp 58) 22 rfl (w1.heap.size + 2) 9 i9 _ 1 16 Try.underlying22 hi9 z90 z91 z92 rfl (by decide) (.slice aD 0 cD) 0 [] rfl (hI.d.alloc _) ⟨wr.heap.size, 0, none⟩ 1 1 [.string L[k]] rfl rfl (cell_one_new _ _ _) (by simp [Value.oneCell']) (by decide) (by unfold maxLen; omega) (by omega) (by have := hI.g.hb; simp; omega) (wr.heap.size + 1) (by simp) ?_; intro gD' capD' w3 hoD hgD hlD hltD; have hA := hI.app hgD hoD (by simpa using hlD); have ck3 := hcc w3 hA.2.2 k hlt)
            | (go_at_call 11; refine (zznode_put w3 _ _ _ 0 (fD []) vI vB vH vW 0 [] L[k] hA.1 (by omega) (by omega) hszk rfl).mono ?_; rintro e w4 hp; obtain ⟨rfl, vI', vB', vH', vW', h2, hf, hl⟩ := hp))
          go_roundw
          case rel => exact ⟨k + 1, [L[k]], vI', vB', vH', vW', by omega, by go_num, hI.put hszk hnone hoD hA.1 (.inr (fun e => hA.2.1 e.symm)) hA.2.2 h2 hf hl, .inr ⟨gD', capD', by simp, rfl⟩⟩
          case measure => simp [intOf]; omega
        · go_wp2_with fail
          go_loopw [6, 7] (fun z j wx => ∃ jj : Nat, jj ≤ D.length ∧ j = .int .i64 jj ∧ z = .int .i64 D.length ∧ (∀ i (_ : i < jj) (hi : i < D.length), D[i] ≠ L[k]) ∧ Sm wr wx) (fun _ j _ => D.length - (intOf j).toNat)
          case atStart => exact ⟨0, Nat.zero_le _, rfl, rfl, fun i h => absurd h (by omega), Sm.refl _⟩
          case round =>
            obtain ⟨jj, hjj, rfl, rfl, hno, hsm⟩ := hrel
            have hIx := hI.same hsm
            have ckx := hcc _ hIx.bel k hlt
            by_cases hjl : jj < D.length
            · have cj : wr.cell? ⟨gD, jj, none⟩ = some (.string D[jj]) := by
                rw [hIx.d.cellAt jj (by omega)]
                simp [hjl]
              have i1 : (0 : Int) ≤ (jj : Int) := Int.natCast_nonneg _
              have i2 : (jj : Int) < (D.length : Int) := by omega
              have i3 : (0 : Int) ≤ (k : Int) := Int.natCast_nonneg _
              have i4 : (k : Int) < (L.length : Int) := by omega
              by_cases heq : D[jj] = L[k]
              · have tq := str_eq heq
                have hsome := fD_some (ix_some hjl heq hno)
                clear heq
                go_wp2_with fail
                go_quiet (fail)
                have hIy := hIx.same (Sm.drewN _ nq)
                go_wp2_with (go_at_call 11; refine (zznode_old _ _ _ _ _ (fD D) vI vB vH vW D.length _ L[k] jj hIy.g hszk hsome).mono ?_; rintro e w4 ⟨rfl, rfl⟩)
                go_roundw
                case rel => exact ⟨k + 1, D, vI, vB, vH, vW, by omega, by go_num, hIy.next, .inr ⟨gD, cD, hD0, rfl⟩⟩
                case measure => simp [intOf]; omega
              · have tq := str_ne heq
                go_wp2_with fail
                go_quiet (fail)
                go_wp2_with fail
                go_roundw
                case rel => exact ⟨jj + 1, by omega, by go_num, rfl, fun i h hi => by
                  by_cases e : i = jj
                  · subst e; exact heq
                  · exact hno i (by omega) hi, hsm.trans (Sm.drewN _ _)⟩
                case measure => simp [intOf]; omega
            · have hnone : ix D L[k] = none := ix_none (fun i hi => hno i (by omega) hi)
              have heqn : ((D.length : Int) == (D.length : Int)) = true := by simp
              clear hno
              obtain ⟨i9, hi9, z90, z91, z92⟩ := info_parts info9
              go_wp2_with (first
                | (at_builtin; refine wpList_append_lies _ rfl (.tmp 53) (.tmp 58) 22 rfl (w1.heap.size + 2) 9 i9 _ 1 16 Try.underlying22 hi9 z90 z91 z92 rfl (by decide) (.slice (some ⟨gD, 0, none⟩) D.length cD) D.length (D.map Value.string) rfl (hIx.d.alloc _) ⟨wr.heap.size, 0, none⟩ 1 1 [.string L[k]] rfl rfl (cell_one_new _ _ _) (by simp [Value.oneCell']) (by decide) (by unfold maxLen; omega) (by omega) (by have := hIx.g.hb; simp; omega) (wr.heap.size + 1) (by simp) ?_; intro gD' capD' w3 hoD hgD hlD hltD; have hA := hIx.app hgD hoD (by simpa using hlD); have ck3 := hcc w3 hA.2.2 k hlt)
                | (go_at_call 11; refine (zznode_put w3 _ _ _ D.length (fD D) vI vB vH vW D.length _ L[k] hA.1 (by omega) (by omega) hszk (fD_none hnone)).mono ?_; rintro e w4 hp; obtain ⟨rfl, vI', vB', vH', vW', h2, hf, hl⟩ := hp))
              go_roundw
              case rel => exact ⟨k + 1, D ++ [L[k]], vI', vB', vH', vW', by omega, by go_num, hIx.put hszk hnone hoD hA.1 (.inr (fun e => hA.2.1 e.symm)) hA.2.2 h2 hf hl, .inr ⟨gD', capD', by simp, by simp⟩⟩
              case measure => simp [intOf]; omega
      · have hfin := fun wx (h : Sm wr wx) => hb1.trans (((hI.bel.trans (h.below _))).mono (Nat.le_of_lt hC1))
        rcases hv with ⟨rfl, aD, cD, rfl⟩ | ⟨gD, cD, hD0, rfl⟩
        · obtain ⟨aI, cI, rfl⟩ := own_slice hI.g.i
          go_wp2_with (go_at_call 12; refine (graphIds _ _ _ _ _ _ _ _ _ _ _ _ hI.g).mono ?_; rintro e w3 ⟨rfl, rfl⟩)
          refine wp_loop_rounds 1 ?_
          rw [rounds_succ]
          go_wp2_with (go_at_call 13; refine (graphSizes _ _ _ _ _ _ _ _ _ _ _ _ hI.g).mono ?_; rintro e w4 ⟨rfl, k4, rfl⟩)
          go_ret
          exact ⟨rfl, hfin _ (Sm.drewN _ _)⟩
        · obtain ⟨gI, cI, rfl, hgI1, hgI2⟩ := hI.g.i.form hD0
          go_wp2_with (go_at_call 12; refine (graphIds _ _ _ _ _ _ _ _ _ _ _ _ hI.g).mono ?_; rintro e w3 ⟨rfl, rfl⟩)
          go_loopw [9] (fun j wx => ∃ jj : Nat, jj ≤ D.length ∧ j = .int .i64 jj ∧ Sm w3 wx) (fun j _ => D.length - (intOf j).toNat)
          case atStart => exact ⟨0, Nat.zero_le _, rfl, Sm.refl _⟩
          case round =>
            obtain ⟨jj, hjj, rfl, hsm⟩ := hrel
            have hIx := hI.same hsm
            by_cases hjl : jj < D.length
            · have cj : wr.cell? ⟨gD, jj, none⟩ = some (.string D[jj]) := by
                rw [hIx.d.cellAt jj (by omega)]
                simp [hjl]
              have cj2 : wr.cell? ⟨gI, jj, none⟩ = some (.string D[jj]) := by
                rw [hIx.g.i.cellAt jj (by omega)]
                simp [hjl]
              have i1 : (0 : Int) ≤ (jj : Int) := Int.natCast_nonneg _
              have i2 : (jj : Int) < (D.length : Int) := by omega
              clear hfin
              go_wp2_with fail
              go_quiet (fail)
              go_wp2_with fail
              go_roundw
              case rel => exact ⟨jj + 1, by omega, by go_num, hsm.trans (Sm.drewN _ _)⟩
              case measure => simp [intOf]; omega
            · go_wp2_with (go_at_call 13; refine (graphSizes _ _ _ _ _ _ _ _ _ _ _ _ hIx.g).mono ?_; rintro e w4 ⟨rfl, k4, rfl⟩)
              go_ret
              exact ⟨rfl, hfin _ (hsm.trans (Sm.drewN _ _))⟩
end Go.Proofs.Qxb6003797a
