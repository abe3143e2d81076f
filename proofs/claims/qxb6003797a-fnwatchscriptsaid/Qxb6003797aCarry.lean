import Derived.Test.Qxb6003797aConcat
import Derived.Deep.RegionLaw
namespace Go.Proofs.Qxb6003797a
open Go.RowKit

abbrev NBw := ByteArray → Option (Int × Bool)
abbrev SIw := ByteArray → Option (Int × Int)
def putN {α : Type} (N : ByteArray → Option α) (s : ByteArray) (x : α) : ByteArray → Option α := fun s' => if s' = s then some x else N s'
/-- One name that is heard or awaited. -/
def stepN (S : SIw) (now : Int) (N : NBw) (s : ByteArray) : NBw := if (N s).isSome || (S s).isSome then N else putN N s (now, true)
def runN (S : SIw) (now : Int) (N : NBw) (M : List ByteArray) : NBw := M.foldl (stepN S now) N
/-- One name that is silent. -/
def stepS (N : NBw) (now : Int) (S : SIw) (s : ByteArray) : SIw := if (N s).isSome || (S s).isSome then S else putN S s (2, now)
def runS (N : NBw) (now : Int) (S : SIw) (M : List ByteArray) : SIw := M.foldl (stepS N now) S
theorem runN_step (S : SIw) (now : Int) (N : NBw) (M : List ByteArray) (k : Nat) (h : k < M.length) : runN S now N (M.take (k + 1)) = stepN S now (runN S now N (M.take k)) M[k] := by
  unfold runN
  rw [List.take_succ_eq_append_getElem h, List.foldl_append]
  rfl
theorem runS_step (N : NBw) (now : Int) (S : SIw) (M : List ByteArray) (k : Nat) (h : k < M.length) : runS N now S (M.take (k + 1)) = stepS N now (runS N now S (M.take k)) M[k] := by
  unfold runS
  rw [List.take_succ_eq_append_getElem h, List.foldl_append]
  rfl
theorem put_hv (N : NBw) (s : ByteArray) (x : Int × Bool) : putF (fun z => (N z).map hv) s (hv x) = fun z => (putN N s x z).map hv := by
  funext z
  by_cases e : z = s <;> simp [putF, putN, e]
theorem put_sv (S : SIw) (s : ByteArray) (x : Int × Int) : putF (fun z => (S z).map sv) s (sv x) = fun z => (putN S s x z).map sv := by
  funext z
  by_cases e : z = s <;> simp [putF, putN, e]

/-- A record that names only whom it hears, awaits and holds silent. -/
def RK (h a s : Value) : Array Value := #[.string ⟨#[]⟩, .int .u64 0, .int .u64 0, h, .slice none 0 0, s, .slice none 0 0, .slice none 0 0, .slice none 0 0, .slice none 0 0, .slice none 0 0, .slice none 0 0, .slice none 0 0, a, .slice none 0 0, .bool false]

/-- A call of a Go function, by its contract, as one step of a region that draws. -/
theorem step_call {ops : Array Oper} {o : Oper} {a : Act} {w : World} {K : Act → World → Prop} {Q : Exit → Act → World → Prop} {E : Prop} (hgd : o.guard = none) (fn : Nat) (args : Array Value) {R : Ending → World → Prop} (hrun : ∀ w, (execOp a.eval o).run Try.prog w = .ok (.enter fn args) w)
    (hC : Calls Try.prog fn args w fun e w' => (∃ v, e = .returned v) ∧ R e w') (h : ∀ v w', R (.returned v) w' → K (a.put o.dst v) w') : if Region.wanted o (yielded ops a.tmps) = true then Oper.wp Try.prog o a w K Q else E := by
  have hw : Region.wanted o (yielded ops a.tmps) = true := by simp [Region.wanted, hgd]
  rw [if_pos hw]
  unfold Oper.wp
  rw [hrun]
  refine Calls.mono hC ?_
  rintro e w' ⟨⟨v, rfl⟩, hr⟩
  exact h v w' hr

/-- What carryOn leaves. -/
def COPost (w : World) (B n : Nat) (F : NF) (N : NBw) (S : SIw) (now : Int) (M M3 : List ByteArray) (e : Ending) (w' : World) : Prop :=
  e = .returned (.tuple #[]) ∧ ∃ f', NI w' B (n + M.length + 2 * M3.length) { F with nb := fun s => (runN S now N M s).map hv, si := fun s => (runS (runN S now N M) now S M3 s).map sv, hr := f' } ∧ Fr w w' [some (B + 16), some (B + 1), some (B + 2), some (B + 15)]

set_option maxRecDepth 100000 in
set_option maxHeartbeats 3200000 in
theorem carryOn (w : World) (B n : Nat) (F : NF) (N : NBw) (S : SIw) (now : Int) (h : NI w B n F) (hW : WS F N S) (hre : F.re SELF = some (REC SELF 1 1 NIL)) (hn : n ≤ 40000)
    (a1 : Option Addr) (c1 : Nat) (L1 : List ByteArray) (a2 : Option Addr) (c2 : Nat) (L2 : List ByteArray) (a3 : Option Addr) (c3 : Nat) (L3 : List ByteArray) (s1 : SS w a1 c1 L1) (s2 : SS w a2 c2 L2) (s3 : SS w a3 c3 L3) (l1 : L1.length ≤ 8) (l2 : L2.length ≤ 8) (l3 : L3.length ≤ 8)
    (r3 : ∀ b off, a3 = some ⟨b, off, none⟩ → b < B ∨ B + 16 < b) (z1 : ∀ s ∈ L1, s.size ≤ maxLen) (z2 : ∀ s ∈ L2, s.size ≤ maxLen) (z3 : ∀ s ∈ L3, s.size ≤ maxLen) :
    Calls Try.prog 43 #[.pointer (some ⟨B + 16, 0, none⟩), .int .i64 now, .agg (RK (.slice a1 L1.length c1) (.slice a2 L2.length c2) (.slice a3 L3.length c3))] w (COPost w B n F N S now (L1 ++ L2) L3) := by
  have hlt := h.lt
  unfold RK
  go_enter Try.func43, Try.ntmps43
  go_wp2_with fail
  obtain ⟨W0, hW0⟩ : ∃ W0, W0 = (w.alloc (.cells #[.string ⟨#[]⟩, .int .u64 0, .int .u64 0, .slice a1 L1.length c1, .slice none 0 0, .slice a3 L3.length c3, .slice none 0 0, .slice none 0 0, .slice none 0 0, .slice none 0 0, .slice none 0 0, .slice none 0 0, .slice none 0 0, .slice a2 L2.length c2, .slice none 0 0, .bool false] 83)).alloc (.cells #[.slice a1 L1.length c1, .slice a2 L2.length c2] 22) := ⟨_, rfl⟩
  rw [← hW0]
  have fr0 : Fr w W0 [] := by rw [hW0]; exact Fr.alloc2 _ _ _
  have bR : W0.heap[w.heap.size]? = some (.cells #[.string ⟨#[]⟩, .int .u64 0, .int .u64 0, .slice a1 L1.length c1, .slice none 0 0, .slice a3 L3.length c3, .slice none 0 0, .slice none 0 0, .slice none 0 0, .slice none 0 0, .slice none 0 0, .slice none 0 0, .slice none 0 0, .slice a2 L2.length c2, .slice none 0 0, .bool false] 83 (0, 0)) := by
    rw [hW0, Go.heap_alloc_old _ _ (by simp)]
    exact Go.heap_alloc_new _ _
  have bS : W0.heap[w.heap.size + 1]? = some (.cells #[.slice a1 L1.length c1, .slice a2 L2.length c2] 22 (0, 0)) := by
    rw [hW0]
    have := Go.heap_alloc_new (w.alloc (.cells #[.string ⟨#[]⟩, .int .u64 0, .int .u64 0, .slice a1 L1.length c1, .slice none 0 0, .slice a3 L3.length c3, .slice none 0 0, .slice none 0 0, .slice none 0 0, .slice none 0 0, .slice none 0 0, .slice none 0 0, .slice none 0 0, .slice a2 L2.length c2, .slice none 0 0, .bool false] 83)) (.cells #[.slice a1 L1.length c1, .slice a2 L2.length c2] 22)
    simpa using this
  clear hW0
  have ltR := lt_of_block bR
  refine (concat W0 (w.heap.size + 1) a1 c1 L1 a2 c2 L2 bS (s1.keep fr0 (by simp)) (s2.keep fr0 (by simp)) l1 l2).mono ?_
  rintro e w1 ⟨am, cm, rfl, om, f1⟩
  have n1 : NI w1 B n F := (h.keep fr0 (by simp)).keep (below_fr f1) (by simp)
  have fw1 : Fr w w1 [some (B + 16), some (B + 1), some (B + 2), some (B + 15)] := (fr0.mono (by simp)).trans (below_fr f1) (by simp)
  have bR1 := below_block f1 bR ltR
  have s31 : SS w1 a3 c3 L3 := (s3.keep fr0 (by simp)).keep (below_fr f1) (by simp)
  have zM : ∀ s ∈ L1 ++ L2, s.size ≤ maxLen := fun s hs => by
    rcases List.mem_append.1 hs with hs | hs
    · exact z1 s hs
    · exact z2 s hs
  have lM : (L1 ++ L2).length ≤ 16 := by rw [List.length_append]; omega
  have hge0 : w.heap.size ≤ W0.heap.size := fr0.size
  generalize L1 ++ L2 = M at *
  clear s1 s2 s3 bR bS fr0 f1 z1 z2
  go_wp2_with fail
  go_loopw [17] (fun i wr => ∃ k : Nat, k ≤ M.length ∧ i = .int .i64 k ∧ NI wr B (n + k) { F with nb := fun s => (runN S now N (M.take k) s).map hv } ∧ Fr w1 wr [some (B + 16), some (B + 1)]) (fun i _ => M.length - (intOf i).toNat)
  case atStart => exact ⟨0, Nat.zero_le _, rfl, by
    have e : F = { F with nb := fun s => (runN S now N (M.take 0) s).map hv } := by
      rw [List.take_zero]
      show F = { F with nb := fun s => (N s).map hv }
      rw [← hW.nb]
    rw [← e]
    exact n1, Fr.refl _ _⟩
  case round =>
    obtain ⟨k, hk, rfl, hI, hF⟩ := hrel
    by_cases hkl : k < M.length
    · obtain ⟨gM, cM, eM, hg1, hg2⟩ := om.form (by omega)
      simp only [Value.slice.injEq, true_and] at eM
      obtain ⟨rfl, rfl⟩ := eM
      have ck : wr.cell? ⟨gM, k, none⟩ = some (.string M[k]) := by
        rw [World.cell?_of_block (w := w1) (w' := wr) (a := ⟨gM, k, none⟩) (hF.block gM (by omega) (by simp; omega)), om.cellAt k (by omega)]
        simp [hkl]
      have hsk := zM _ (List.getElem_mem hkl)
      have hWk : WS { F with nb := fun s => (runN S now N (M.take k) s).map hv } (runN S now N (M.take k)) S := ⟨rfl, hW.si⟩
      have hstep := runN_step S now N M k hkl
      have HWt := watches wr B (n + k) _ _ _ hI hWk M[k] hsk
      generalize runN S now N (M.take k) = Nk at *
      generalize hNk1 : runN S now N (M.take (k + 1)) = Nk1 at *
      have i1 : (0 : Int) ≤ (k : Int) := Int.natCast_nonneg _
      have i2 : (k : Int) < (M.length : Int) := by omega
      cases hbw : ((Nk M[k]).isSome || (S M[k]).isSome) with
      | true =>
        rw [hbw] at HWt
        have e1 : Nk1 = Nk := by rw [hstep]; unfold stepN; rw [hbw]; rfl
        subst e1
        clear hWk hstep hbw
        go_wp2_with fail
        refine HWt.mono ?_
        rintro e w2 ⟨rfl, f2⟩
        clear HWt
        go_wp2_with fail
        go_roundw
        case rel => exact ⟨k + 1, by omega, by go_num, by rw [hNk1]; exact (hI.keep (below_fr f2) (by simp)).mono (n' := n + (k + 1)) (by omega), hF.trans (below_fr f2) (by simp)⟩
        case measure => simp [intOf]; omega
      | false =>
        rw [hbw] at HWt
        have e1 : Nk1 = putN Nk M[k] (now, true) := by rw [hstep]; unfold stepN; rw [hbw]; rfl
        subst e1
        clear hWk hstep hbw
        go_wp2_with fail
        refine HWt.mono ?_
        rintro e w2 ⟨rfl, f2⟩
        have hI2 := hI.keep (below_fr f2) (by simp)
        have c1 := hI2.c_nb
        clear HWt
        go_wp2_with (at_mapUpdate; refine wpList_put _ rfl _ _ _ 84 rfl 9 96 Try.underlying9 Try.underlying84 (B + 1) (n + k) _ rfl hI2.nb (by unfold maxLen; omega) M[k] rfl hsk (.agg #[.int .i64 now, .int .u64 0, .int .u64 0, .bool true]) rfl ?_; intro w3 hm3 hg3; (have n3 : NI w3 B (n + (k + 1)) { F with nb := fun s => (putN Nk M[k] (now, true) s).map hv } := by rw [← put_hv]; exact hI2.w_nb hm3 hg3 (Nat.le_succ _)); have z13 := n3.fz 13; obtain ⟨u13, d13⟩ := n3.there 13 (by omega))
        go_roundw
        case rel => exact ⟨k + 1, by omega, by go_num, by rw [hNk1]; exact n3.set 13 (.bool true) (by decide), ((hF.trans (below_fr f2) (by simp)).trans (Fr.of_grown (R := [some (B + 1)]) hg3 (.inl (by simp))) (fun k _ hm => by simp at hm ⊢; omega)).trans (Fr.setCell _ _ _) (fun k _ hm => by simp at hm ⊢; omega)⟩
        case measure => simp [intOf]; omega
    · obtain rfl : k = M.length := by omega
      rw [List.take_length] at hI
      have hW1 : WS { F with nb := fun s => (runN S now N M s).map hv } (runN S now N M) S := ⟨rfl, hW.si⟩
      have hre1 : ({ F with nb := fun s => (runN S now N M s).map hv } : NF).re SELF = some (REC SELF 1 1 NIL) := hre
      have bR2 := hF.keepB bR1 (by simp; omega)
      have c5 := cell_of_row wr w.heap.size 5 _ _ _ bR2
      simp at c5
      have s32 : SS wr a3 c3 L3 := s31.keep hF (fun b off e hm => by have := r3 b off e; simp at hm; omega)
      have fwr := fw1.trans hF (fun k _ hm => by simp at hm ⊢; omega)
      generalize hNM : runN S now N M = N1 at *
      clear hF bR1 bR2 s31 fw1 om n1
      go_wp2_with fail
      go_loopw [39] (fun i wr => ∃ (k : Nat) (f' : ByteArray → Option Value), k ≤ L3.length ∧ i = .int .i64 k ∧ NI wr B (n + M.length + 2 * k) { F with nb := fun s => (N1 s).map hv, si := fun s => (runS N1 now S (L3.take k) s).map sv, hr := f' } ∧ Fr w wr [some (B + 16), some (B + 1), some (B + 2), some (B + 15)] ∧ SS wr a3 c3 L3) (fun i _ => L3.length - (intOf i).toNat)
      case atStart => exact ⟨0, F.hr, Nat.zero_le _, rfl, by
        have e : ({ F with nb := fun s => (N1 s).map hv } : NF) = { F with nb := fun s => (N1 s).map hv, si := fun s => (runS N1 now S (L3.take 0) s).map sv, hr := F.hr } := by
          rw [List.take_zero]
          show ({ F with nb := fun s => (N1 s).map hv } : NF) = { F with nb := fun s => (N1 s).map hv, si := fun s => (S s).map sv, hr := F.hr }
          rw [← hW.si]
        rw [← e]
        exact hI, fwr, s32⟩
      case round =>
        obtain ⟨k, f', hk3, rfl, hJ, hF3, s33⟩ := hrel
        by_cases hkl3 : k < L3.length
        · obtain ⟨b3, o3, e3, hb3, hc3⟩ := s33.at (by omega)
          have ck := hc3 k hkl3
          have hsk := z3 _ (List.getElem_mem hkl3)
          have hWk : WS { F with nb := fun s => (N1 s).map hv, si := fun s => (runS N1 now S (L3.take k) s).map sv, hr := f' } N1 (runS N1 now S (L3.take k)) := ⟨rfl, rfl⟩
          have hstep := runS_step N1 now S L3 k hkl3
          have HWt := watches wr B _ _ _ _ hJ hWk L3[k] hsk
          have hr3 := r3 b3 o3 e3
          generalize runS N1 now S (L3.take k) = Sk at *
          generalize hSk1 : runS N1 now S (L3.take (k + 1)) = Sk1 at *
          have i1 : (0 : Int) ≤ (k : Int) := Int.natCast_nonneg _
          have i2 : (k : Int) < (L3.length : Int) := by omega
          clear hc3 c5 s32 hI hW1
          subst e3
          cases hbw : ((N1 L3[k]).isSome || (Sk L3[k]).isSome) with
          | true =>
            rw [hbw] at HWt
            have e1 : Sk1 = Sk := by rw [hstep]; unfold stepS; rw [hbw]; rfl
            subst e1
            clear hWk hstep hbw
            go_wp2_with fail
            refine HWt.mono ?_
            rintro e w2 ⟨rfl, f2⟩
            clear HWt
            go_wp2_with fail
            go_roundw
            case rel => exact ⟨k + 1, f', by omega, by go_num, by rw [hSk1]; exact (hJ.keep (below_fr f2) (by simp)).mono (n' := n + M.length + 2 * (k + 1)) (by omega), hF3.trans (below_fr f2) (by simp), s33.keep (below_fr f2) (by simp)⟩
            case measure => simp [intOf]; omega
          | false =>
            rw [hbw] at HWt
            have e1 : Sk1 = putN Sk L3[k] (2, now) := by rw [hstep]; unfold stepS; rw [hbw]; rfl
            subst e1
            clear hWk hstep hbw
            go_wp2_with fail
            refine HWt.mono ?_
            rintro e w2 ⟨rfl, f2⟩
            have J2 := hJ.keep (below_fr f2) (by simp)
            have c2' := J2.c_si
            have hre2 : ({ F with nb := fun s => (N1 s).map hv, si := fun s => (Sk s).map sv, hr := f' } : NF).re SELF = some (REC SELF 1 1 NIL) := hre
            clear HWt
            go_wp2_with fail
            go_region_law (refine step_call rfl 51 #[.pointer (some ⟨B + 16, 0, none⟩)] (fun _ => by kernel_rfl) ((nextVersion w2.drew B _ _ J2.drew hre2).mono fun e w' h => ⟨⟨_, h.1⟩, h⟩) ?_; rintro v w3 ⟨hv3, sm3⟩; cases hv3; (have J3 := J2.drew.same sm3); have c3' := J3.c_si; obtain ⟨w4, hrun4, hm4, hg4⟩ := J3.si.update Try.underlying9 Try.underlying85 (by unfold maxLen; omega) hsk (.agg #[.int .u64 2, .int .i64 now, .int .i64 now, .bool true]))
            all_goals (
              (try simp only [Act.put, List.getElem_toArray, List.getElem_cons_succ, List.getElem_cons_zero, List.setIfInBounds_toArray, List.set_cons_succ, List.set_cons_zero])
              have n4 : NI w4 B (n + M.length + 2 * k + 1) { F with nb := fun s => (N1 s).map hv, si := fun s => (putN Sk L3[k] (2, now) s).map sv, hr := f' } := by
                rw [← put_sv]
                exact J3.w_si hm4 hg4 (Nat.le_succ _)
              have z13 := n4.fz 13
              obtain ⟨u13, d13⟩ := n4.there 13 (by omega)
              have f24 : Fr w2 w4 [some (B + 16), some (B + 1), some (B + 2), some (B + 15)] := ((sm3.fr.mono (by simp)).trans (Fr.of_grown (R := [some (B + 2)]) hg4 (.inl (by simp))) (fun k _ hm => by simp at hm ⊢; omega)).undrew
              go_wp2_with fail
              refine (joined _ B _ _ (n4.set 13 (.bool true) (by decide)) L3[k] hsk (by omega)).mono ?_
              rintro e w6 ⟨rfl, n6, g6⟩
              have f26 := (f24.trans (Fr.setCell w4 ⟨B + 16, 13, none⟩ (.bool true)) (fun k _ hm => by simp at hm ⊢; omega)).trans (Fr.of_grown (R := [some (B + 15)]) g6 (.inl (by simp))) (fun k _ hm => by simp at hm ⊢; omega)
              go_wp2_with fail
              go_roundw
              case rel => exact ⟨k + 1, _, by omega, by go_num, by rw [hSk1]; exact n6.mono (n' := n + M.length + 2 * (k + 1)) (by omega), (hF3.trans (below_fr f2) (by simp)).trans f26 (fun _ _ h => h), (s33.keep (below_fr f2) (by simp)).keep f26 (fun b off e hm => by cases e; simp at hm; omega)⟩
              case measure => simp [intOf]; omega)
        · obtain rfl : k = L3.length := by omega
          rw [List.take_length] at hJ
          go_wp2
          go_end0
          exact ⟨rfl, f', by rw [hNM]; exact hJ, hF3⟩
end Go.Proofs.Qxb6003797a
