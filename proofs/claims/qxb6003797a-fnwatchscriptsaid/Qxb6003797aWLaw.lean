import Derived.Test.Qxb6003797aFrame
import Derived.Deep.CutBlock
import Derived.BigQuiet
import Derived.Deep.QuietTactic
namespace Go.Proofs.Qxb6003797a
open Go.RowKit

def WOk (w : World) (e : Ending) (w' : World) : Prop := e = .returned (.bool true) ∧ Below w.heap.size w w'

theorem info47 : (Try.prog.info? 47).map (fun i => (i.zero, i.size, i.bytes)) = some (some (.agg #[.int .i64 0, .int .u64 0, .int .u64 0, .bool false, .bool false, .bool false]), 6, 32) := by kernel_rfl

theorem IS.on {k : IntKind} {w w1 : World} {a : Option Addr} {c : Nat} {L : List Int} (h : IS k w a c L) (hf : Below w.heap.size w w1) : IS k w1 a c L := by
  rcases h with h | ⟨b, off, e, hb, hc⟩
  · exact .inl h
  · exact .inr ⟨b, off, e, Nat.lt_of_lt_of_le hb hf.size, fun j hj => by rw [hf.cell (p := ⟨b, off + j, none⟩) hb]; exact hc j hj⟩

theorem u64_range (n : Int) : 0 ≤ IntKind.u64.wrap n ∧ IntKind.u64.wrap n ≤ 18446744073709551615 := by rw [IntKind.wrap_u64]; omega

/-- A row of snapshots just made. -/
theorem made_row {w w1 : World} {base e n : Nat} {z : Value} (h : w1.ownsRow base e 6 (.slice (some ⟨w.heap.size, 0, none⟩) n n) n (madeCells z.cells (n * 6)).toList) : ∃ cur, w1.heap[w.heap.size]? = some (.cells cur e (0, 0)) ∧ cur.size = 6 * n := by
  rcases h.2 with ⟨h', -⟩ | ⟨g, cap, cur, h', -, hg, -, -, hs, -⟩
  · cases h'
  · cases h'
    exact ⟨cur, hg, by omega⟩

/-- What a slot holds. -/
theorem wpList_id {P : Program} {ops : Array Oper} {rest : List Oper} {op : Oper} {a : Act} {w : World} {Q : Exit → Act → World → Prop} (h : wpList P ops Q (op :: rest) a w) : wpList P ops Q (op :: rest) a w := h
theorem gd {l : List Value} {t : Nat} {v : Value} (h : l[t]? = some v) : l.toArray.getD t undef = v := by
  simp [Array.getD_eq_getD_getElem?, h]
theorem F5.lay {l : List Value} {v0 v1 v2 v3 v9 v10 : Value} (h : l.length = 353) (h0 : l[0]? = some v0) (h1 : l[1]? = some v1) (h2 : l[2]? = some v2) (h3 : l[3]? = some v3) (h9 : l[9]? = some v9) (h10 : l[10]? = some v10) : F5 { tmps := l.toArray, defers := [] } v0 v1 v2 v3 v9 v10 :=
  ⟨h, rfl, gd h0, gd h1, gd h2, gd h3, gd h9, gd h10⟩
theorem ev {l : List Value} {d : List Deferred} {t : Nat} {v : Value} (h : l[t]? = some v) : Act.eval { tmps := l.toArray, defers := d } (.tmp t) = v := by
  show l.toArray.getD t undef = v
  simp [Array.getD_eq_getD_getElem?, h]

set_option maxRecDepth 100000 in
set_option maxHeartbeats 40000000 in
theorem watchLaw (a1 : Option Addr) (c1 : Nat) (L : List ByteArray) (a2 : Option Addr) (c2 : Nat) (K : List Int) (a3 : Option Addr) (c3 : Nat) (M : List Int) (a4 : Option Addr) (c4 : Nat) (W : List Int) (w : World)
    (h1 : SS w a1 c1 L) (h2 : IS .u8 w a2 c2 K) (h3 : IS .u32 w a3 c3 M) (h4 : IS .i64 w a4 c4 W) (m1 : L.length ≤ 9223372036854775807) (m2 : K.length ≤ 9223372036854775807) (m3 : M.length ≤ 9223372036854775807) (m4 : W.length ≤ 9223372036854775807)
    (hs : ∀ s ∈ L, s.size ≤ maxLen) (zK : ∀ x ∈ K, 0 ≤ x ∧ x ≤ 255) (zM : ∀ x ∈ M, 0 ≤ x ∧ x < 4294967296) (zW : ∀ x ∈ W, -9223372036854775808 ≤ x ∧ x ≤ 9223372036854775807) :
    Calls Try.prog 5 #[.slice a1 L.length c1, .slice a2 K.length c2, .slice a3 M.length c3, .slice a4 W.length c4] w (WOk w) := by
  have HB := bytes20 a1 c1 L a2 K.length c2 a3 M.length c3 a4 W.length c4 w h1 m1 m2 m3 m4
  by_cases g1 : 8 < L.length
  · go_enter Try.func5, Try.ntmps5
    go_wp2_with fail
    refine HB.mono ?_
    rintro e w' ⟨r, rfl, rfl, hr⟩
    cases r <;> (go_wp2; go_ret; exact ⟨rfl, Below.refl _ _⟩)
  by_cases g2 : 64 < K.length
  · go_enter Try.func5, Try.ntmps5
    go_wp2_with fail
    refine HB.mono ?_
    rintro e w' ⟨r, rfl, rfl, hr⟩
    cases r <;> (go_wp2; go_ret; exact ⟨rfl, Below.refl _ _⟩)
  by_cases g3 : 64 < M.length
  · go_enter Try.func5, Try.ntmps5
    go_wp2_with fail
    refine HB.mono ?_
    rintro e w' ⟨r, rfl, rfl, hr⟩
    cases r <;> (go_wp2; go_ret; exact ⟨rfl, Below.refl _ _⟩)
  by_cases g4 : 64 < W.length
  · go_enter Try.func5, Try.ntmps5
    go_wp2_with fail
    refine HB.mono ?_
    rintro e w' ⟨r, rfl, rfl, hr⟩
    cases r <;> (go_wp2; go_ret; exact ⟨rfl, Below.refl _ _⟩)
  go_enter Try.func5, Try.ntmps5
  go_wp2_with fail
  refine HB.mono ?_
  rintro e w' ⟨r, rfl, rfl, hr⟩
  clear HB
  cases r
  · go_wp2
    go_ret
    exact ⟨rfl, Below.refl _ _⟩
  have t1 := hr rfl
  clear hr
  go_wp2_with fail
  refine (strBytes_ss _ a1 c1 L h1 t1).mono ?_
  rintro e w' ⟨rfl, rfl⟩
  by_cases gs : 65536 < (16 * L.length + tot L) + K.length + 4 * M.length + 8 * W.length
  · go_wp2
    go_ret
    exact ⟨rfl, Below.refl _ _⟩
  by_cases l0 : L.length = 0
  · have e0 : ((L.length : Int) == 0) = true := by rw [l0]; rfl
    go_wp2
    go_ret
    exact ⟨rfl, Below.refl _ _⟩
  have e0 : ((L.length : Int) == 0) = false := by simpa using l0
  by_cases l1 : M.length = K.length
  case neg =>
    have e1 : ((M.length : Int) == (K.length : Int)) = false := by simpa [Int.ofNat_inj] using l1
    go_wp2
    go_ret
    exact ⟨rfl, Below.refl _ _⟩
  have e1 : ((M.length : Int) == (K.length : Int)) = true := by simp [l1]
  by_cases l2 : W.length = K.length
  case neg =>
    have e2 : ((W.length : Int) == (K.length : Int)) = false := by simpa [Int.ofNat_inj] using l2
    go_wp2
    go_ret
    exact ⟨rfl, Below.refl _ _⟩
  have e2 : ((W.length : Int) == (K.length : Int)) = true := by simp [l2]
  have hl12 : Hid (M.length = K.length ∧ W.length = K.length) := ⟨l1, l2⟩
  have hzz : Hid ((∀ x ∈ K, 0 ≤ x ∧ x ≤ 255) ∧ (∀ x ∈ M, 0 ≤ x ∧ x < 4294967296) ∧ (∀ x ∈ W, -9223372036854775808 ≤ x ∧ x ≤ 9223372036854775807) ∧ ∀ s ∈ L, s.size ≤ maxLen) := ⟨zK, zM, zW, hs⟩
  clear zK zM zW hs
  go_wp2_with fail
  clear e0 e1 e2 l1 l2
  refine (clone_ss _ a1 c1 L h1 (by omega)).mono ?_
  rintro e w1 ⟨b1, rfl, -, k1, s1, f1, -⟩
  obtain ⟨g1', o1, rfl, q1, nm1⟩ := s1.at (by omega)
  have kk1 : Hid ((∀ j (h : j < L.length), w1.cell? ⟨g1', o1 + j, none⟩ = some (.string L[j])) ∧ g1' = w'.heap.size ∧ g1' < w1.heap.size) := ⟨nm1, k1 _ _ rfl, q1⟩
  clear k1 nm1 s1 q1
  go_wp2_with fail
  refine (cloneU8 _ a2 c2 K (h2.on f1) (by omega)).mono ?_
  rintro e w2 ⟨b2, d2, rfl, k2, f2⟩
  have kk2 : Hid (0 < K.length → b2 = some ⟨w1.heap.size, 0, none⟩ ∧ w1.heap.size < w2.heap.size ∧ ∀ j (h : j < K.length), w2.cell? ⟨w1.heap.size, j, none⟩ = some (.int .u8 K[j])) := k2
  clear k2
  have f12 := f1.trans (f2.mono f1.size)
  go_wp2_with fail
  have C3 := cloneU32 _ a3 c3 M (h3.on f12) (by omega)
  rw [hl12.out.1] at C3
  refine C3.mono ?_
  rintro e w3 ⟨b3, d3, he3, k3, f3⟩
  rw [hl12.out.1] at he3
  subst he3
  clear C3
  have kk3 : Hid (0 < M.length → b3 = some ⟨w2.heap.size, 0, none⟩ ∧ w2.heap.size < w3.heap.size ∧ ∀ j (h : j < M.length), w3.cell? ⟨w2.heap.size, j, none⟩ = some (.int .u32 M[j])) := k3
  clear k3
  have f13 := f12.trans (f3.mono f12.size)
  go_wp2_with fail
  have C4 := cloneI64 _ a4 c4 W (h4.on f13) (by omega)
  rw [hl12.out.2] at C4
  refine C4.mono ?_
  rintro e w4 ⟨b4, d4, he4, k4, f4⟩
  rw [hl12.out.2] at he4
  subst he4
  clear C4
  have kk4 : Hid (0 < W.length → b4 = some ⟨w3.heap.size, 0, none⟩ ∧ w3.heap.size < w4.heap.size ∧ ∀ j (h : j < W.length), w4.cell? ⟨w3.heap.size, j, none⟩ = some (.int .i64 W[j])) := k4
  clear k4
  have f14 := f13.trans (f4.mono f13.size)
  go_wp2_with fail
  refine (zzNewNode w4).mono ?_
  rintro e w5 ⟨rfl, hn, f5⟩
  have hlt5 := hn.lt
  have f15 := f14.trans (f5.mono f14.size)
  obtain ⟨i47, hi, hz0, hz1, hz2⟩ := info_parts info47
  have hbb : i47.bytes * L.length ≤ 281474976710656 := by rw [hz2]; omega
  clear hz2
  go_wp2_with (at_make; refine wpList_make_full _ rfl _ _ 45 rfl w5.heap.size 47 i47 _ 6 Try.underlying45 hi hz0 hz1 _ _ _ _ L.length rfl rfl rfl rfl hbb (by unfold maxLen; omega) (Nat.le_refl _) ?_; intro w6 hown hgrow)
  obtain ⟨B, hB⟩ : ∃ B, B = w4.heap.size + 1 := ⟨_, rfl⟩
  obtain ⟨H, hH⟩ : ∃ H, H = w5.heap.size := ⟨_, rfl⟩
  obtain ⟨gk, hgk⟩ : ∃ g, g = w1.heap.size := ⟨_, rfl⟩
  obtain ⟨gm, hgm⟩ : ∃ g, g = w2.heap.size := ⟨_, rfl⟩
  obtain ⟨gw, hgw⟩ : ∃ g, g = w3.heap.size := ⟨_, rfl⟩
  have hp : w4.heap.size + 17 = B + 16 := by omega
  have hSC : SC w6 B 2 F0 (fun _ => none) (fun _ => none) := by
    rw [hB]
    exact SC.start (hn.keep (Fr.of_grown (R := []) hgrow (.inr rfl)) (by simp))
  have hEV : EV w' B H g1' o1 gk gm gw L K M W w6 0 (fun _ => none) (fun _ => none) := by
    have hg6 : Fr w5 w6 [] := Fr.of_grown hgrow (.inr rfl)
    have hF4 : Fr w4 w6 [] := (below_fr f5).trans hg6 (by simp)
    have hF3 : Fr w3 w6 [] := (below_fr f4).trans hF4 (by simp)
    have hF2 : Fr w2 w6 [] := (below_fr f3).trans hF3 (by simp)
    have hF1 : Fr w1 w6 [] := (below_fr f2).trans hF2 (by simp)
    have z1 := f1.size
    have z2 := f2.size
    have z3 := f3.size
    have z4 := f4.size
    obtain ⟨p1, p2, p3⟩ := kk1.out
    refine ⟨fun j hj => ?_, fun j hj => ?_, fun j hj => ?_, fun j hj => ?_, ?_, ?_, by omega, by omega, by omega, by omega, by omega, by omega⟩
    · rw [World.cell?_of_block (hF1.block g1' (by omega) (by simp))]; exact p1 j hj
    · obtain ⟨-, p, q⟩ := kk2.out (by omega)
      rw [hgk, World.cell?_of_block (hF2.block w1.heap.size (by omega) (by simp))]; exact q j hj
    · obtain ⟨-, p, q⟩ := kk3.out (by omega)
      rw [hgm, World.cell?_of_block (hF3.block w2.heap.size (by omega) (by simp))]; exact q j hj
    · obtain ⟨-, p, q⟩ := kk4.out (by omega)
      rw [hgw, World.cell?_of_block (hF4.block w3.heap.size (by omega) (by simp))]; exact q j hj
    · obtain ⟨cur, q1, q2⟩ := made_row hown
      rw [hH]
      exact ⟨cur, q1, q2, fun i _ hi => absurd hi (Nat.not_lt_zero _)⟩
    · exact f15.trans (hg6.below f15.size (by simp))
  have hb2 : Hid (0 < K.length → b2 = some ⟨gk, 0, none⟩) := fun h => by rw [(kk2.out h).1, hgk]
  have hb3 : Hid (0 < K.length → b3 = some ⟨gm, 0, none⟩) := fun h => by rw [(kk3.out (by have := hl12.out.1; omega)).1, hgm]
  have hb4 : Hid (0 < K.length → b4 = some ⟨gw, 0, none⟩) := fun h => by rw [(kk4.out (by have := hl12.out.2; omega)).1, hgw]
  simp only [hp, ← hH]
  clear hp hB hH hgk hgm hgw kk1 kk2 kk3 kk4 hown hgrow hn hlt5 f1 f2 f3 f4 f5 f12 f13 f14 f15 h1 h2 h3 h4 hi hz0 hz1 hbb t1 gs m1 m2 m3 m4 g3 g4
  clear w5 w4 w3 w2 w1 i47
  refine wp_loop_ghost_k (fun g a wr => ∃ (k n : Nat) (F : NF) (N : NBw) (S : SIw), F5 a (.slice (some ⟨g1', o1, none⟩) L.length L.length) (.slice b2 K.length d2) (.slice b3 K.length d3) (.slice b4 K.length d4) (.pointer (some ⟨B + 16, 0, none⟩)) (.slice (some ⟨H, 0, none⟩) L.length L.length) ∧ a.tmps.getD 11 undef = .int .i64 k ∧ g = K.length - k ∧ k ≤ K.length ∧ n ≤ 2 + 100 * k ∧ SC wr B n F N S ∧ EV w' B H g1' o1 gk gm gw L K M W wr 0 N S) K.length ?_ ?_
  · exact ⟨0, 2, F0, _, _, F5.lay rfl rfl rfl rfl rfl rfl rfl, rfl, rfl, Nat.zero_le _, Nat.le_refl _, hSC, hEV⟩
  · rintro gg a wr ⟨k, n, F, N, S, hF, h11, hgg, hk, hnk, hSC', hEV'⟩ J Kx hJ hKx
    obtain ⟨f, rfl, e0, e1, e2, e3, e9, e10, ef⟩ := hF.open
    have e11 : f 11 = .int .i64 k := by rw [ef]; exact h11
    simp only [fr5, e0, e1, e2, e3, e9, e10, e11]
    clear e0 e1 e2 e3 e9 e10 e11 ef h11 hF hSC hEV
    by_cases hkl : k < K.length
    case neg =>
      have hbel := hEV'.bel
      clear hSC' hEV' hb2 hb3 hb4 hzz hl12 hJ
      go_wp2
      go_ret
      exact ⟨rfl, hbel⟩
    obtain rfl := hb2.out (by omega)
    obtain rfl := hb3.out (by omega)
    obtain rfl := hb4.out (by omega)
    clear hb2 hb3 hb4
    go_wp2_with fail
    go_loopw [12] (fun i wr => ∃ j : Nat, j ≤ L.length ∧ i = .int .i64 j ∧ SC wr B n F N S ∧ EV w' B H g1' o1 gk gm gw L K M W wr j N S) (fun i _ => L.length - (intOf i).toNat)
    case atStart => exact ⟨0, Nat.zero_le _, rfl, hSC', hEV'⟩
    case round =>
      obtain ⟨j, hj, rfl, hS1, hE1⟩ := hrel
      clear hSC' hEV'
      by_cases hjl : j < L.length
      · have cj := hE1.nm j hjl
        have i1 : (0 : Int) ≤ (j : Int) := Int.natCast_nonneg _
        have i2 : (j : Int) < (L.length : Int) := by omega
        have hss := hzz.out.2.2.2 L[j] (List.getElem_mem hjl)
        have ZS := zzSnap _ B n F N S hS1.ni hS1.ws L[j] hss
        go_wp2_with fail
        refine ZS.mono ?_
        rintro e wa ⟨rfl, fa⟩
        have hSa := hS1.keep (below_fr fa) (by simp)
        have hEa := hE1.keep (below_fr fa) (by simp)
        have h5 := hEa.b5
        clear cj ZS hss hS1 hE1
        go_wp2_with (with_reducible refine wpList_id ?_; refine wpList_store_ev rfl (.tmp 120) (.tmp 119) rfl hEa hjl _ (ev rfl) rfl (ev rfl) ?_; intro wb hEb hfb)
        go_roundw
        case rel => exact ⟨j + 1, by omega, by go_num, hSa.keep hfb (fun k _ hk hm => by simp at hm; omega), hEb⟩
        case measure => simp [intOf]; omega
      · obtain rfl : j = L.length := by omega
        have q1 := hl12.out.1
        have q2 := hl12.out.2
        have ck := hE1.km k hkl
        have cm := hE1.mm k (by omega)
        have cw := hE1.wm k (by omega)
        have rk := hzz.out.1 K[k] (List.getElem_mem hkl)
        have rm := hzz.out.2.1 M[k] (List.getElem_mem (by omega))
        have rw' := hzz.out.2.2.1 W[k] (List.getElem_mem (by omega))
        generalize K[k] = kd at ck rk
        generalize M[k] = m at cm rm
        generalize W[k] = now at cw rw'
        clear q1 q2
        have i1 : (0 : Int) ≤ (k : Int) := Int.natCast_nonneg _
        have i2 : (k : Int) < (K.length : Int) := by omega
        go_upto_block 4 with fail
        refine wp_cut (fun a wc => F5 a (.slice (some ⟨g1', o1, none⟩) L.length L.length) (.slice (some ⟨gk, 0, none⟩) K.length d2) (.slice (some ⟨gm, 0, none⟩) K.length d3) (.slice (some ⟨gw, 0, none⟩) K.length d4) (.pointer (some ⟨B + 16, 0, none⟩)) (.slice (some ⟨H, 0, none⟩) L.length L.length) ∧ a.tmps.getD 11 undef = .int .i64 k ∧ ∃ (n' : Nat) (F' : NF) (N' : NBw) (S' : SIw), n' ≤ n + 100 ∧ SC wc B n' F' N' S' ∧ EV w' B H g1' o1 gk gm gw L K M W wc L.length N S) ?rest ?first
        case rest =>
          rintro a wc ⟨hF, h11, n', F', N', S', hn', hSc, hEc⟩
          obtain ⟨f', rfl, e0, e1, e2, e3, e9, e10, ef⟩ := hF.open
          have e11 : f' 11 = .int .i64 k := by rw [ef]; exact h11
          simp only [fr5, e0, e1, e2, e3, e9, e10, e11]
          clear e0 e1 e2 e3 e9 e10 e11 ef h11 hF hS1 hE1 ck cm cw rk rm rw'
          go_wp2_with fail
          go_loopw [31] (fun i wr => ∃ j : Nat, j ≤ L.length ∧ i = .int .i64 j ∧ Fr wc wr []) (fun i _ => L.length - (intOf i).toNat)
          case atStart => exact ⟨0, Nat.zero_le _, rfl, Fr.refl _ _⟩
          case round =>
            obtain ⟨j, hj, rfl, hf⟩ := hrel
            have hSr := hSc.keep hf (by simp)
            have hEr := hEc.keep hf (by simp)
            by_cases hjl : j < L.length
            · have cj := hEr.nm j hjl
              have j1 : (0 : Int) ≤ (j : Int) := Int.natCast_nonneg _
              have j2 : (j : Int) < (L.length : Int) := by omega
              have hss := hzz.out.2.2.2 L[j] (List.getElem_mem hjl)
              have hd := hSr.dis L[j]
              have ZS := zzSnap _ B n' F' N' S' hSr.ni hSr.ws L[j] hss
              clear hSc hEc hSr hEr hss
              generalize N' L[j] = x at *
              generalize hy : S' L[j] = y at *
              go_wp2_with fail
              refine ZS.mono ?_
              rintro e wa ⟨rfl, fa⟩
              clear cj ZS
              go_upto_region 81 with (with_reducible refine wpList_id ?_; refine wpList_store_snap rfl (.tmp 32) (.tmp 346) rfl wa.heap.size _ (ev rfl) _ _ (ev rfl) (heap_alloc_new _ _) rfl ?_; intro wb hbb hgb)
              have fb : Fr wc wb [] := (hf.trans (below_fr fa) (by simp)).trans (made_fr hgb) (by simp)
              have c4 := cell_of_row _ _ 4 _ _ _ hbb
              have c5 := cell_of_row _ _ 5 _ _ _ hbb
              clear hbb hgb fa hf hy
              cases x with
              | none =>
                simp [snapC] at c4 c5
                clear hd
                go_wp2_with fail
                go_roundw
                case rel => exact ⟨j + 1, by omega, by go_num, fb⟩
                case measure => simp [intOf]; omega
              | some p =>
                obtain rfl := hd (by simp)
                simp [snapC] at c4 c5
                clear hd
                go_wp2_with fail
                go_roundw
                case rel => exact ⟨j + 1, by omega, by go_num, fb⟩
                case measure => simp [intOf]; omega
            · clear hSc hEc
              go_wp2_with fail
              refine Handed.intro (K.length - (k + 1)) (by omega) (hJ _ _ _ ⟨k + 1, n', F', N', S', F5.lay rfl rfl rfl rfl rfl rfl rfl, ?_, rfl, by omega, by omega, hSr, hEr.reset⟩)
              show Value.int .i64 _ = _
              go_num
        case first =>
          intro J4 K4 hJ4 hK4
          clear hJ
          have hr : kd % 4 = 0 ∨ kd % 4 = 1 ∨ kd % 4 = 2 ∨ kd % 4 = 3 := by omega
          clear cm cw
          rcases hr with hr | hr | hr | hr
          · clear ck
            have hHs := hE1.lt
            have h5 := hE1.b5
            have h1' := hE1.b1
            go_wp2_with fail
            refine (zzPick wr g1' o1 L.length L m 0 (by omega) (by omega) rm.1 rm.2 (by omega) hE1.nm).mono ?_
            rintro e wa ⟨p1, d1, rfl, ow1, fa⟩
            have hEa := hE1.keep (below_fr fa) (by simp)
            have za := fa.size
            go_wp2_with fail
            refine (zzPick wa g1' o1 L.length L m 8 (by omega) (by omega) rm.1 rm.2 (by omega) hEa.nm).mono ?_
            rintro e wb ⟨p2, d2', rfl, ow2, fb⟩
            have hEb := hEa.keep (below_fr fb) (by simp)
            have zb := fb.size
            go_wp2_with fail
            refine (zzPick wb g1' o1 L.length L m 16 (by omega) (by omega) rm.1 rm.2 (by omega) hEb.nm).mono ?_
            rintro e wc ⟨p3, d3', rfl, ow3, fc⟩
            have hEc := hEb.keep (below_fr fc) (by simp)
            have hSc := ((hS1.keep (below_fr fa) (by simp)).keep (below_fr fb) (by simp)).keep (below_fr fc) (by simp)
            have s1 : SS wc p1 d1 (picked L m 0 L.length) := ((own_ss ow1).keep (below_fr fb) (by simp)).keep (below_fr fc) (by simp)
            have s2 : SS wc p2 d2' (picked L m 8 L.length) := (own_ss ow2).keep (below_fr fc) (by simp)
            have s3 : SS wc p3 d3' (picked L m 16 L.length) := own_ss ow3
            have r3 : ∀ b off, p3 = some ⟨b, off, none⟩ → b < B ∨ B + 16 < b := fun b off e => by have := own_far ow3 b off e; omega
            have v1 := picked_len L m 0 L.length
            have v2 := picked_len L m 8 L.length
            have v3 := picked_len L m 16 L.length
            have zz : ∀ sh, ∀ s ∈ picked L m sh L.length, s.size ≤ maxLen := fun sh s hs => hzz.out.2.2.2 s (picked_mem L m sh _ hs)
            have HC := carry_sc wc B n F N S now hSc (by omega) p1 d1 _ p2 d2' _ p3 d3' _ s1 s2 s3 (by omega) (by omega) (by omega) r3 (zz 0) (zz 8) (zz 16)
            clear ow1 ow2 ow3 fa fb fc hEa hEb hSc s1 s2 s3 r3 v1 v2 v3 zz hS1 hE1 za zb h5 hHs h1'
            have n0 : ∀ s, named L m 0 s = true ↔ s ∈ picked L m 0 L.length := fun s => named_iff
            have n8 : ∀ s, named L m 8 s = true ↔ s ∈ picked L m 8 L.length := fun s => named_iff
            have n16 : ∀ s, named L m 16 s = true ↔ s ∈ picked L m 16 L.length := fun s => named_iff
            have nn : Hid ((∀ s, named L m 0 s = true ↔ s ∈ picked L m 0 L.length) ∧ (∀ s, named L m 8 s = true ↔ s ∈ picked L m 8 L.length) ∧ ∀ s, named L m 16 s = true ↔ s ∈ picked L m 16 L.length) := ⟨n0, n8, n16⟩
            clear n0 n8 n16
            generalize picked L m 0 L.length = P0 at *
            generalize picked L m 8 L.length = P8 at *
            generalize picked L m 16 L.length = P16 at *
            go_wp2_with fail
            refine HC.mono ?_
            rintro e wd ⟨rfl, ⟨F', hSd⟩, fd⟩
            have hEd := hEc.keep fd (fun k hk => by simp at hk; omega)
            clear HC fd hEc
            go_wp2_with fail
            refine wp_loop_ghost_k (fun g a wr => ∃ j : Nat, F5 a (.slice (some ⟨g1', o1, none⟩) L.length L.length) (.slice (some ⟨gk, 0, none⟩) K.length d2) (.slice (some ⟨gm, 0, none⟩) K.length d3) (.slice (some ⟨gw, 0, none⟩) K.length d4) (.pointer (some ⟨B + 16, 0, none⟩)) (.slice (some ⟨H, 0, none⟩) L.length L.length) ∧ a.tmps.getD 11 undef = .int .i64 k ∧ a.tmps.getD 13 undef = .int .u32 m ∧ a.tmps.getD 14 undef = .int .i64 now ∧ a.tmps.getD 15 undef = .int .i64 j ∧ g = L.length - j ∧ j ≤ L.length ∧ Fr wd wr []) L.length ?_ ?_
            · exact ⟨0, F5.lay rfl rfl rfl rfl rfl rfl rfl, gd rfl, gd rfl, gd rfl, gd rfl, rfl, Nat.zero_le _, Fr.refl _ _⟩
            · rintro g5 a wr ⟨j, hF, h11, x13, x14, hji, hg5, hj, hf⟩ J5 K5 hJ5 hK5
              obtain ⟨fi, rfl, e0, e1, e2, e3, e9, e10, ef⟩ := hF.open
              have e11 : fi 11 = .int .i64 k := by rw [ef]; exact h11
              have e13 : fi 13 = .int .u32 m := by rw [ef]; exact x13
              have e14 : fi 14 = .int .i64 now := by rw [ef]; exact x14
              have ej : fi 15 = .int .i64 j := by rw [ef]; exact hji
              simp only [fr5, e0, e1, e2, e3, e9, e10, e11, e13, e14, ej]
              clear e0 e1 e2 e3 e9 e10 e11 ej ef h11 hji hF e13 e14 x13 x14
              have hSr := hSd.keep hf (by simp)
              have hEr := hEd.keep hf (by simp)
              by_cases hjl : j < L.length
              case neg =>
                clear hSd hEd hJ5
                go_wp2_with fail
                exact Met.intro (hJ4 _ _ ⟨F5.lay rfl rfl rfl rfl rfl rfl rfl, gd rfl, _, F', _, _, Nat.le_refl _, hSr, hEr⟩)
              have cj := hEr.nm j hjl
              have j1 : (0 : Int) ≤ (j : Int) := Int.natCast_nonneg _
              have j2 : (j : Int) < (L.length : Int) := by omega
              have hss := hzz.out.2.2.2 L[j] (List.getElem_mem hjl)
              have W1 := carry_w S now N P0 P8 P16 L[j]
              have W2 := carry_n S now N P0 P8 P16 L[j]
              have W3 := carry_s S now N P0 P8 P16 L[j]
              have W4 := carry_o S now N P0 P8 P16 L[j]
              have U0 := nn.out.1 L[j]
              have U8 := nn.out.2.1 L[j]
              have U16 := nn.out.2.2 L[j]
              have WW : Hid (_ ∧ _ ∧ _ ∧ _ ∧ _ ∧ _ ∧ _) := ⟨W1, W2, W3, W4, U0, U8, U16⟩
              clear W1 W2 W3 W4 U0 U8 U16
              go_upto_region 48 with (with_reducible refine wpList_id ?_; first | (refine wpList_load_ev rfl (.tmp 241) rfl hEr hjl hjl _ (ev rfl) rfl ?_) | (refine wpList_store_snap rfl (.tmp 16) (.tmp 242) rfl wr.heap.size _ (ev rfl) _ _ (ev rfl) (heap_alloc_new _ _) rfl ?_; intro wa hba hga))
              have fa : Fr wr wa [] := made_fr hga
              have hSa := hSr.keep fa (by simp)
              have hEa := hEr.keep fa (by simp)
              have ZS := zzSnap wa B _ F' _ _ hSa.ni hSa.ws L[j] hss
              have cja := hEa.nm j hjl
              clear cj
              go_wp2_with fail
              refine ZS.mono ?_
              rintro e wb ⟨rfl, fb⟩
              have hbb := below_block fb hba (lt_of_block hba)
              have ltb := lt_of_block hbb
              go_upto_region 49 with (with_reducible refine wpList_id ?_; refine wpList_store_snap rfl (.tmp 17) (.tmp 248) rfl wb.heap.size _ (ev rfl) _ _ (ev rfl) (heap_alloc_new _ _) rfl ?_; intro w3 hb3 hg3)
              have f3 := made_fr hg3
              have hbc := f3.keepB hbb (by simp)
              have hfr : Fr wd w3 [] := ((hf.trans fa (by simp)).trans (below_fr fb) (by simp)).trans f3 (by simp)
              have hEc := (hEa.keep (below_fr fb) (by simp)).keep f3 (by simp)
              have cj3 := hEc.nm j hjl
              have hnm := hEc.nm
              have cc3 := cell_of_row _ _ 3 _ _ _ hbc
              have cc4 := cell_of_row _ _ 4 _ _ _ hbc
              have cc5 := cell_of_row _ _ 5 _ _ _ hbc
              clear cja ZS hba hga fa fb hbb hg3 f3 hSa hEa hSr hEr hf
              obtain ⟨W1, W2, W3, W4, U0, U8, U16⟩ := WW.out
              clear WW
              generalize N L[j] = x at *
              generalize (S L[j]).isSome = y at *
              generalize runN S now N (P0 ++ P8) L[j] = x' at *
              generalize (runS (runN S now N (P0 ++ P8)) now S P16 L[j]).isSome = y' at *
              cases x with
              | some p =>
                obtain ⟨rfl, rfl⟩ := W1 (by simp)
                simp [snapC] at cc3 cc4 cc5
                clear W1 W2 W3 W4 U0 U8 U16
                go_wp2_with (with_reducible refine wpList_id ?_; first | (refine wpList_load_snap rfl (.tmp 17) rfl wb.heap.size (ev rfl) _ _ hb3 ?_) | (refine wpList_load_snap rfl (.tmp 16) rfl wr.heap.size (ev rfl) _ _ hbc ?_) | (refine wpList_neq_snap rfl (.tmp 255) (.tmp 256) 47 rfl (_) (_) (ev rfl) (ev rfl) ?_))
                refine Handed.intro (L.length - (j + 1)) (by omega) (hJ5 _ _ _ ⟨j + 1, F5.lay rfl rfl rfl rfl rfl rfl rfl, gd rfl, gd rfl, gd rfl, ?_, rfl, by omega, hfr⟩)
                show Value.int .i64 _ = _
                go_num
              | none =>
                cases y with
                | true =>
                  obtain ⟨rfl, rfl⟩ := W1 (by simp)
                  simp [snapC] at cc3 cc4 cc5
                  clear W1 W2 W3 W4 U0 U8 U16
                  go_wp2_with (with_reducible refine wpList_id ?_; first | (refine wpList_load_snap rfl (.tmp 17) rfl wb.heap.size (ev rfl) _ _ hb3 ?_) | (refine wpList_load_snap rfl (.tmp 16) rfl wr.heap.size (ev rfl) _ _ hbc ?_) | (refine wpList_neq_snap rfl (.tmp 255) (.tmp 256) 47 rfl (_) (_) (ev rfl) (ev rfl) ?_))
                  refine Handed.intro (L.length - (j + 1)) (by omega) (hJ5 _ _ _ ⟨j + 1, F5.lay rfl rfl rfl rfl rfl rfl rfl, gd rfl, gd rfl, gd rfl, ?_, rfl, by omega, hfr⟩)
                  show Value.int .i64 _ = _
                  go_num
                | false =>
                  simp [snapC] at cc3 cc4 cc5
                  by_cases hn0 : named L m 0 L[j] = true
                  · obtain ⟨rfl, rfl⟩ := W2 (by simp) (.inl (U0.1 hn0))
                    clear W1 W2 W3 W4 U0 U8 U16
                    go_wp2_with fail
                    refine (zzNamed w3 g1' o1 L.length L m 0 L[j] (by omega) (by omega) rm.1 rm.2 hnm).mono ?_
                    rintro e w4 ⟨rfl, rfl⟩
                    rw [hn0]
                    go_wp2_with (with_reducible refine wpList_id ?_; first | (refine wpList_load_snap rfl (.tmp 17) rfl wb.heap.size (ev rfl) _ _ hb3 ?_) | (refine wpList_load_snap rfl (.tmp 16) rfl wr.heap.size (ev rfl) _ _ hbc ?_) | (refine wpList_neq_snap rfl (.tmp 274) (.tmp 276) 47 rfl (some (now, true)) (false) (ev rfl) (ev rfl) ?_))
                    refine Handed.intro (L.length - (j + 1)) (by omega) (hJ5 _ _ _ ⟨j + 1, F5.lay rfl rfl rfl rfl rfl rfl rfl, gd rfl, gd rfl, gd rfl, ?_, rfl, by omega, hfr⟩)
                    show Value.int .i64 _ = _
                    go_num
                  have hn0' : named L m 0 L[j] = false := by simpa using hn0
                  by_cases hn8 : named L m 8 L[j] = true
                  · obtain ⟨rfl, rfl⟩ := W2 (by simp) (.inr (U8.1 hn8))
                    clear W1 W2 W3 W4 U0 U8 U16
                    go_wp2_with fail
                    refine (zzNamed w3 g1' o1 L.length L m 0 L[j] (by omega) (by omega) rm.1 rm.2 hnm).mono ?_
                    rintro e w4 ⟨rfl, rfl⟩
                    rw [hn0']
                    go_wp2_with fail
                    refine (zzNamed _ g1' o1 L.length L m 8 L[j] (by omega) (by omega) rm.1 rm.2 hnm).mono ?_
                    rintro e w5 ⟨rfl, rfl⟩
                    rw [hn8]
                    go_wp2_with (with_reducible refine wpList_id ?_; first | (refine wpList_load_snap rfl (.tmp 17) rfl wb.heap.size (ev rfl) _ _ hb3 ?_) | (refine wpList_load_snap rfl (.tmp 16) rfl wr.heap.size (ev rfl) _ _ hbc ?_) | (refine wpList_neq_snap rfl (.tmp 274) (.tmp 276) 47 rfl (some (now, true)) (false) (ev rfl) (ev rfl) ?_))
                    refine Handed.intro (L.length - (j + 1)) (by omega) (hJ5 _ _ _ ⟨j + 1, F5.lay rfl rfl rfl rfl rfl rfl rfl, gd rfl, gd rfl, gd rfl, ?_, rfl, by omega, hfr⟩)
                    show Value.int .i64 _ = _
                    go_num
                  have hn8' : named L m 8 L[j] = false := by simpa using hn8
                  have u0 := fun h => hn0 (U0.2 h)
                  have u8 := fun h => hn8 (U8.2 h)
                  by_cases hn16 : named L m 16 L[j] = true
                  · obtain ⟨rfl, rfl⟩ := W3 (by simp) u0 u8 (U16.1 hn16)
                    clear W1 W2 W3 W4 U0 U8 U16 u0 u8
                    go_wp2_with fail
                    refine (zzNamed w3 g1' o1 L.length L m 0 L[j] (by omega) (by omega) rm.1 rm.2 hnm).mono ?_
                    rintro e w4 ⟨rfl, rfl⟩
                    rw [hn0']
                    go_wp2_with fail
                    refine (zzNamed _ g1' o1 L.length L m 8 L[j] (by omega) (by omega) rm.1 rm.2 hnm).mono ?_
                    rintro e w5 ⟨rfl, rfl⟩
                    rw [hn8']
                    go_wp2_with fail
                    refine (zzNamed _ g1' o1 L.length L m 16 L[j] (by omega) (by omega) rm.1 rm.2 hnm).mono ?_
                    rintro e w6 ⟨rfl, rfl⟩
                    rw [hn16]
                    go_wp2_with (with_reducible refine wpList_id ?_; first | (refine wpList_load_snap rfl (.tmp 17) rfl wb.heap.size (ev rfl) _ _ hb3 ?_) | (refine wpList_load_snap rfl (.tmp 16) rfl wr.heap.size (ev rfl) _ _ hbc ?_) | (refine wpList_neq_snap rfl (.tmp 285) (.tmp 286) 47 rfl (none) (true) (ev rfl) (ev rfl) ?_))
                    refine Handed.intro (L.length - (j + 1)) (by omega) (hJ5 _ _ _ ⟨j + 1, F5.lay rfl rfl rfl rfl rfl rfl rfl, gd rfl, gd rfl, gd rfl, ?_, rfl, by omega, hfr⟩)
                    show Value.int .i64 _ = _
                    go_num
                  have hn16' : named L m 16 L[j] = false := by simpa using hn16
                  obtain ⟨rfl, rfl⟩ := W4 u0 u8 (fun h => hn16 (U16.2 h))
                  clear W1 W2 W3 W4 U0 U8 U16 u0 u8
                  go_wp2_with fail
                  refine (zzNamed w3 g1' o1 L.length L m 0 L[j] (by omega) (by omega) rm.1 rm.2 hnm).mono ?_
                  rintro e w4 ⟨rfl, rfl⟩
                  rw [hn0']
                  go_wp2_with fail
                  refine (zzNamed _ g1' o1 L.length L m 8 L[j] (by omega) (by omega) rm.1 rm.2 hnm).mono ?_
                  rintro e w5 ⟨rfl, rfl⟩
                  rw [hn8']
                  go_wp2_with fail
                  refine (zzNamed _ g1' o1 L.length L m 16 L[j] (by omega) (by omega) rm.1 rm.2 hnm).mono ?_
                  rintro e w6 ⟨rfl, rfl⟩
                  rw [hn16']
                  go_wp2_with (with_reducible refine wpList_id ?_; first | (refine wpList_load_snap rfl (.tmp 17) rfl wb.heap.size (ev rfl) _ _ hb3 ?_) | (refine wpList_load_snap rfl (.tmp 16) rfl wr.heap.size (ev rfl) _ _ hbc ?_) | (refine wpList_neq_snap rfl (.tmp 288) (.tmp 289) 47 rfl (_) (_) (ev rfl) (ev rfl) ?_))
                  refine Handed.intro (L.length - (j + 1)) (by omega) (hJ5 _ _ _ ⟨j + 1, F5.lay rfl rfl rfl rfl rfl rfl rfl, gd rfl, gd rfl, gd rfl, ?_, rfl, by omega, hfr⟩)
                  show Value.int .i64 _ = _
                  go_num
          · skip
            have hnn : n ≤ 50000 := by omega
            have HC := lose_sc wr B n F N S hS1 hnn
            go_wp2_with fail
            refine HC.mono ?_
            rintro e wd ⟨rfl, ⟨F', hSd⟩, fd⟩
            have hEd := hE1.keep fd (fun k hk => by simp at hk; omega)
            clear HC fd hE1 hS1 ck rm rk
            go_wp2_with fail
            refine wp_loop_ghost_k (fun g a wr => ∃ j : Nat, F5 a (.slice (some ⟨g1', o1, none⟩) L.length L.length) (.slice (some ⟨gk, 0, none⟩) K.length d2) (.slice (some ⟨gm, 0, none⟩) K.length d3) (.slice (some ⟨gw, 0, none⟩) K.length d4) (.pointer (some ⟨B + 16, 0, none⟩)) (.slice (some ⟨H, 0, none⟩) L.length L.length) ∧ a.tmps.getD 11 undef = .int .i64 k ∧ a.tmps.getD 18 undef = .int .i64 0 ∧ a.tmps.getD 19 undef = .int .i64 j ∧ g = L.length - j ∧ j ≤ L.length ∧ Fr wd wr []) L.length ?_ ?_
            · exact ⟨0, F5.lay rfl rfl rfl rfl rfl rfl rfl, gd rfl, gd rfl, gd rfl, rfl, Nat.zero_le _, Fr.refl _ _⟩
            · rintro g5 a wr ⟨j, hF, h11, x18, hji, hg5, hj, hf⟩ J5 K5 hJ5 hK5
              obtain ⟨fi, rfl, e0, e1, e2, e3, e9, e10, ef⟩ := hF.open
              have e11 : fi 11 = .int .i64 k := by rw [ef]; exact h11
              have e18 : fi 18 = .int .i64 0 := by rw [ef]; exact x18
              have ej : fi 19 = .int .i64 j := by rw [ef]; exact hji
              simp only [fr5, e0, e1, e2, e3, e9, e10, e11, e18, ej]
              clear e0 e1 e2 e3 e9 e10 e11 ej ef h11 hji hF e18 x18
              have hSr := hSd.keep hf (by simp)
              have hEr := hEd.keep hf (by simp)
              by_cases hjl : j < L.length
              case neg =>
                clear hSd hEd hJ5
                go_wp2_with fail
                exact Met.intro (hJ4 _ _ ⟨F5.lay rfl rfl rfl rfl rfl rfl rfl, gd rfl, _, F', _, _, Nat.le_add_right _ _, hSr, hEr⟩)
              have cj := hEr.nm j hjl
              have j1 : (0 : Int) ≤ (j : Int) := Int.natCast_nonneg _
              have j2 : (j : Int) < (L.length : Int) := by omega
              have hss := hzz.out.2.2.2 L[j] (List.getElem_mem hjl)
              go_upto_region 71 with (with_reducible refine wpList_id ?_; first | (refine wpList_load_ev rfl (.tmp 314) rfl hEr hjl hjl _ (ev rfl) rfl ?_) | (refine wpList_store_snap rfl (.tmp 20) (.tmp 315) rfl wr.heap.size _ (ev rfl) _ _ (ev rfl) (heap_alloc_new _ _) rfl ?_; intro wa hba hga))
              have fa : Fr wr wa [] := made_fr hga
              have hSa := hSr.keep fa (by simp)
              have hEa := hEr.keep fa (by simp)
              have ZS := zzSnap wa B _ F' _ _ hSa.ni hSa.ws L[j] hss
              have cja := hEa.nm j hjl
              clear cj
              go_wp2_with fail
              refine ZS.mono ?_
              rintro e wb ⟨rfl, fb⟩
              have hbb := below_block fb hba (lt_of_block hba)
              have ltb := lt_of_block hbb
              go_upto_region 72 with (with_reducible refine wpList_id ?_; refine wpList_store_snap rfl (.tmp 21) (.tmp 321) rfl wb.heap.size _ (ev rfl) _ _ (ev rfl) (heap_alloc_new _ _) rfl ?_; intro w3 hb3 hg3)
              have f3 := made_fr hg3
              have hbc := f3.keepB hbb (by simp)
              have hfr : Fr wd w3 [] := ((hf.trans fa (by simp)).trans (below_fr fb) (by simp)).trans f3 (by simp)
              have hEc := (hEa.keep (below_fr fb) (by simp)).keep f3 (by simp)
              have cj3 := hEc.nm j hjl
              have hnm := hEc.nm
              have cc3 := cell_of_row _ _ 3 _ _ _ hbc
              have cc4 := cell_of_row _ _ 4 _ _ _ hbc
              have cc5 := cell_of_row _ _ 5 _ _ _ hbc
              clear cja ZS hba hga fa fb hbb hg3 f3 hSa hEa hSr hEr hf
              generalize N L[j] = x at *
              generalize (S L[j]).isSome = y at *
              cases x with
              | some p =>
                simp [snapC] at cc3 cc4 cc5
                go_wp2_with (with_reducible refine wpList_id ?_; first | (refine wpList_load_snap rfl (.tmp 21) rfl wb.heap.size (ev rfl) _ _ hb3 ?_) | (refine wpList_load_snap rfl (.tmp 20) rfl wr.heap.size (ev rfl) _ _ hbc ?_) | (refine wpList_neq_snap rfl (.tmp 324) (.tmp 330) 47 rfl (some (0, p.2)) (y) (ev rfl) (ev rfl) ?_))
                refine Handed.intro (L.length - (j + 1)) (by omega) (hJ5 _ _ _ ⟨j + 1, F5.lay rfl rfl rfl rfl rfl rfl rfl, gd rfl, gd rfl, ?_, rfl, by omega, hfr⟩)
                show Value.int .i64 _ = _
                go_num
              | none =>
                simp [snapC] at cc3 cc4 cc5
                go_wp2_with (with_reducible refine wpList_id ?_; first | (refine wpList_load_snap rfl (.tmp 21) rfl wb.heap.size (ev rfl) _ _ hb3 ?_) | (refine wpList_load_snap rfl (.tmp 20) rfl wr.heap.size (ev rfl) _ _ hbc ?_) | (refine wpList_neq_snap rfl (.tmp 332) (.tmp 333) 47 rfl (none) (y) (ev rfl) (ev rfl) ?_))
                refine Handed.intro (L.length - (j + 1)) (by omega) (hJ5 _ _ _ ⟨j + 1, F5.lay rfl rfl rfl rfl rfl rfl rfl, gd rfl, gd rfl, ?_, rfl, by omega, hfr⟩)
                show Value.int .i64 _ = _
                go_num
          · skip
            have hnn : n ≤ 50000 := by omega
            have HC := reco_sc wr B n F N S now hS1 hnn
            go_wp2_with fail
            refine HC.mono ?_
            rintro e wd ⟨rfl, ⟨F', hSd⟩, fd⟩
            have hEd := hE1.keep fd (fun k hk => by simp at hk; omega)
            clear HC fd hE1 hS1 ck rm rk
            go_wp2_with fail
            refine wp_loop_ghost_k (fun g a wr => ∃ j : Nat, F5 a (.slice (some ⟨g1', o1, none⟩) L.length L.length) (.slice (some ⟨gk, 0, none⟩) K.length d2) (.slice (some ⟨gm, 0, none⟩) K.length d3) (.slice (some ⟨gw, 0, none⟩) K.length d4) (.pointer (some ⟨B + 16, 0, none⟩)) (.slice (some ⟨H, 0, none⟩) L.length L.length) ∧ a.tmps.getD 11 undef = .int .i64 k ∧ a.tmps.getD 18 undef = .int .i64 now ∧ a.tmps.getD 19 undef = .int .i64 j ∧ g = L.length - j ∧ j ≤ L.length ∧ Fr wd wr []) L.length ?_ ?_
            · exact ⟨0, F5.lay rfl rfl rfl rfl rfl rfl rfl, gd rfl, gd rfl, gd rfl, rfl, Nat.zero_le _, Fr.refl _ _⟩
            · rintro g5 a wr ⟨j, hF, h11, x18, hji, hg5, hj, hf⟩ J5 K5 hJ5 hK5
              obtain ⟨fi, rfl, e0, e1, e2, e3, e9, e10, ef⟩ := hF.open
              have e11 : fi 11 = .int .i64 k := by rw [ef]; exact h11
              have e18 : fi 18 = .int .i64 now := by rw [ef]; exact x18
              have ej : fi 19 = .int .i64 j := by rw [ef]; exact hji
              simp only [fr5, e0, e1, e2, e3, e9, e10, e11, e18, ej]
              clear e0 e1 e2 e3 e9 e10 e11 ej ef h11 hji hF e18 x18
              have hSr := hSd.keep hf (by simp)
              have hEr := hEd.keep hf (by simp)
              by_cases hjl : j < L.length
              case neg =>
                clear hSd hEd hJ5
                go_wp2_with fail
                exact Met.intro (hJ4 _ _ ⟨F5.lay rfl rfl rfl rfl rfl rfl rfl, gd rfl, _, F', _, _, Nat.le_add_right _ _, hSr, hEr⟩)
              have cj := hEr.nm j hjl
              have j1 : (0 : Int) ≤ (j : Int) := Int.natCast_nonneg _
              have j2 : (j : Int) < (L.length : Int) := by omega
              have hss := hzz.out.2.2.2 L[j] (List.getElem_mem hjl)
              go_upto_region 71 with (with_reducible refine wpList_id ?_; first | (refine wpList_load_ev rfl (.tmp 314) rfl hEr hjl hjl _ (ev rfl) rfl ?_) | (refine wpList_store_snap rfl (.tmp 20) (.tmp 315) rfl wr.heap.size _ (ev rfl) _ _ (ev rfl) (heap_alloc_new _ _) rfl ?_; intro wa hba hga))
              have fa : Fr wr wa [] := made_fr hga
              have hSa := hSr.keep fa (by simp)
              have hEa := hEr.keep fa (by simp)
              have ZS := zzSnap wa B _ F' _ _ hSa.ni hSa.ws L[j] hss
              have cja := hEa.nm j hjl
              clear cj
              go_wp2_with fail
              refine ZS.mono ?_
              rintro e wb ⟨rfl, fb⟩
              have hbb := below_block fb hba (lt_of_block hba)
              have ltb := lt_of_block hbb
              go_upto_region 72 with (with_reducible refine wpList_id ?_; refine wpList_store_snap rfl (.tmp 21) (.tmp 321) rfl wb.heap.size _ (ev rfl) _ _ (ev rfl) (heap_alloc_new _ _) rfl ?_; intro w3 hb3 hg3)
              have f3 := made_fr hg3
              have hbc := f3.keepB hbb (by simp)
              have hfr : Fr wd w3 [] := ((hf.trans fa (by simp)).trans (below_fr fb) (by simp)).trans f3 (by simp)
              have hEc := (hEa.keep (below_fr fb) (by simp)).keep f3 (by simp)
              have cj3 := hEc.nm j hjl
              have hnm := hEc.nm
              have cc3 := cell_of_row _ _ 3 _ _ _ hbc
              have cc4 := cell_of_row _ _ 4 _ _ _ hbc
              have cc5 := cell_of_row _ _ 5 _ _ _ hbc
              clear cja ZS hba hga fa fb hbb hg3 f3 hSa hEa hSr hEr hf
              generalize N L[j] = x at *
              generalize (S L[j]).isSome = y at *
              cases x with
              | some p =>
                simp [snapC] at cc3 cc4 cc5
                go_wp2_with (with_reducible refine wpList_id ?_; first | (refine wpList_load_snap rfl (.tmp 21) rfl wb.heap.size (ev rfl) _ _ hb3 ?_) | (refine wpList_load_snap rfl (.tmp 20) rfl wr.heap.size (ev rfl) _ _ hbc ?_) | (refine wpList_neq_snap rfl (.tmp 324) (.tmp 330) 47 rfl (some (now, p.2)) (y) (ev rfl) (ev rfl) ?_))
                refine Handed.intro (L.length - (j + 1)) (by omega) (hJ5 _ _ _ ⟨j + 1, F5.lay rfl rfl rfl rfl rfl rfl rfl, gd rfl, gd rfl, ?_, rfl, by omega, hfr⟩)
                show Value.int .i64 _ = _
                go_num
              | none =>
                simp [snapC] at cc3 cc4 cc5
                go_wp2_with (with_reducible refine wpList_id ?_; first | (refine wpList_load_snap rfl (.tmp 21) rfl wb.heap.size (ev rfl) _ _ hb3 ?_) | (refine wpList_load_snap rfl (.tmp 20) rfl wr.heap.size (ev rfl) _ _ hbc ?_) | (refine wpList_neq_snap rfl (.tmp 332) (.tmp 333) 47 rfl (none) (y) (ev rfl) (ev rfl) ?_))
                refine Handed.intro (L.length - (j + 1)) (by omega) (hJ5 _ _ _ ⟨j + 1, F5.lay rfl rfl rfl rfl rfl rfl rfl, gd rfl, gd rfl, ?_, rfl, by omega, hfr⟩)
                show Value.int .i64 _ = _
                go_num
          · clear ck rk
            have ha7 := and_seven m rm.1 rm.2
            obtain ⟨ix, hix, hixl⟩ : ∃ ix : Nat, (m % 8).tmod (L.length : Int) = (ix : Int) ∧ ix < L.length := by
              have e : (m % 8).tmod (L.length : Int) = (m % 8) % (L.length : Int) := Int.tmod_eq_emod_of_nonneg (by omega)
              have p0 : (0 : Int) ≤ (m % 8) % (L.length : Int) := Int.emod_nonneg _ (by omega)
              have p1 : (m % 8) % (L.length : Int) < (L.length : Int) := Int.emod_lt_of_pos _ (by omega)
              exact ⟨((m % 8) % (L.length : Int)).toNat, by omega, by omega⟩
            have hm8 : 0 ≤ m % 8 ∧ m % 8 < 8 := by omega
            have cid := hE1.nm ix hixl
            have hids := hzz.out.2.2.2 L[ix] (List.getElem_mem hixl)
            have x1 : (0 : Int) ≤ (ix : Int) := Int.natCast_nonneg _
            have x2 : (ix : Int) < (L.length : Int) := by omega
            generalize L[ix] = id at cid hids
            go_wp2_with fail
            have hc0 : 0 ≤ IntKind.u64.wrap now ∧ IntKind.u64.wrap now ≤ 18446744073709551615 := u64_range now
            generalize IntKind.u64.wrap now = count at *
            refine (hear_sc wr B n F N S hS1 id hids m count hc0.1 hc0.2 (by omega)).mono ?_
            rintro e wd ⟨rfl, ⟨F', hSd, hla, haf⟩, fd⟩
            have hEd := hE1.keep fd (fun k hk => by simp at hk; omega)
            have hdel : delS S id id = none := by simp [delS]
            clear fd hE1 hS1 cid hix ha7 hm8 x1 x2 hixl
            have ZQ := zzSilent wd B (n + 100) F' N (delS S id) hSd.ni hSd.ws id hids
            rw [hdel] at ZQ
            clear hdel
            go_wp2_with fail
            refine ZQ.mono ?_
            rintro e we ⟨rfl, fe⟩
            have hSe := hSd.keep (below_fr fe) (by simp)
            have hEe := hEd.keep (below_fr fe) (by simp)
            clear ZQ
            go_wp2_with fail
            refine (zzLacks_none we B (n + 100) F' hSe.ni id hids hla).mono ?_
            rintro e wg ⟨rfl, rfl⟩
            obtain ⟨v, hv, hvv⟩ : ∃ v : Int, F'.af id = some (.int .u64 v) ∧ Hid ((v == 0) = false ∧ ¬ v < count ∧ (v = count → count = 18446744073709551615)) := by
              refine ⟨_, haf, ?_⟩
              show _ ∧ _ ∧ _
              split
              · exact ⟨by simp; omega, by omega, fun _ => by assumption⟩
              · exact ⟨by simp; omega, by omega, fun h => by omega⟩
            clear haf hla
            go_wp2_with fail
            refine (zzAfresh_some wg B (n + 100) F' hSe.ni id hids v hv).mono ?_
            rintro e wg' ⟨rfl, rfl⟩
            clear hSd hEd fe hv
            obtain ⟨hv0, hv1, hv2⟩ := hvv.out
            clear hvv
            by_cases hvc : v = count
            · have hcm := hv2 hvc
              subst hvc
              subst hcm
              clear hv2
              go_wp2_with fail
              refine wp_loop_ghost_k (fun g a wr => ∃ j : Nat, F5 a (.slice (some ⟨g1', o1, none⟩) L.length L.length) (.slice (some ⟨gk, 0, none⟩) K.length d2) (.slice (some ⟨gm, 0, none⟩) K.length d3) (.slice (some ⟨gw, 0, none⟩) K.length d4) (.pointer (some ⟨B + 16, 0, none⟩)) (.slice (some ⟨H, 0, none⟩) L.length L.length) ∧ a.tmps.getD 11 undef = .int .i64 k ∧ a.tmps.getD 22 undef = .string id ∧ a.tmps.getD 28 undef = .int .i64 j ∧ g = L.length - j ∧ j ≤ L.length ∧ Fr wg' wr []) L.length ?_ ?_
              · exact ⟨0, F5.lay rfl rfl rfl rfl rfl rfl rfl, gd rfl, gd rfl, gd rfl, rfl, Nat.zero_le _, Fr.refl _ _⟩
              · rintro g5 a wr ⟨j, hF, h11, x22, hji, hg5, hj, hf⟩ J5 K5 hJ5 hK5
                obtain ⟨fi, rfl, e0, e1, e2, e3, e9, e10, ef⟩ := hF.open
                have e11 : fi 11 = .int .i64 k := by rw [ef]; exact h11
                have e22 : fi 22 = .string id := by rw [ef]; exact x22
                have ej : fi 28 = .int .i64 j := by rw [ef]; exact hji
                simp only [fr5, e0, e1, e2, e3, e9, e10, e11, e22, ej]
                clear e0 e1 e2 e3 e9 e10 e11 ej ef h11 hji hF e22 x22
                have hSr := hSe.keep hf (by simp)
                have hEr := hEe.keep hf (by simp)
                by_cases hjl : j < L.length
                case neg =>
                  clear hSe hEe hJ5
                  go_wp2_with fail
                  exact Met.intro (hJ4 _ _ ⟨F5.lay rfl rfl rfl rfl rfl rfl rfl, gd rfl, _, F', _, _, Nat.le_refl _, hSr, hEr⟩)
                have cj := hEr.nm j hjl
                have j1 : (0 : Int) ≤ (j : Int) := Int.natCast_nonneg _
                have j2 : (j : Int) < (L.length : Int) := by omega
                have hss := hzz.out.2.2.2 L[j] (List.getElem_mem hjl)
                go_upto_region 37 with (with_reducible refine wpList_id ?_; first | (refine wpList_load_ev rfl (.tmp 201) rfl hEr hjl hjl _ (ev rfl) rfl ?_) | (refine wpList_store_snap rfl (.tmp 29) (.tmp 202) rfl wr.heap.size _ (ev rfl) _ _ (ev rfl) (heap_alloc_new _ _) rfl ?_; intro wa hba hga))
                have fa : Fr wr wa [] := made_fr hga
                have hSa := hSr.keep fa (by simp)
                have hEa := hEr.keep fa (by simp)
                have ZS := zzSnap wa B _ F' _ _ hSa.ni hSa.ws L[j] hss
                have cja := hEa.nm j hjl
                clear cj
                go_wp2_with fail
                refine ZS.mono ?_
                rintro e wb ⟨rfl, fb⟩
                have hbb := below_block fb hba (lt_of_block hba)
                have ltb := lt_of_block hbb
                go_upto_region 38 with (with_reducible refine wpList_id ?_; refine wpList_store_snap rfl (.tmp 30) (.tmp 208) rfl wb.heap.size _ (ev rfl) _ _ (ev rfl) (heap_alloc_new _ _) rfl ?_; intro w3 hb3 hg3)
                have f3 := made_fr hg3
                have hbc := f3.keepB hbb (by simp)
                have hfr : Fr wg' w3 [] := ((hf.trans fa (by simp)).trans (below_fr fb) (by simp)).trans f3 (by simp)
                have hEc := (hEa.keep (below_fr fb) (by simp)).keep f3 (by simp)
                have cj3 := hEc.nm j hjl
                have hnm := hEc.nm
                have cc3 := cell_of_row _ _ 3 _ _ _ hbc
                have cc4 := cell_of_row _ _ 4 _ _ _ hbc
                have cc5 := cell_of_row _ _ 5 _ _ _ hbc
                have hwz := hf.size
                clear cja ZS hba hga fa fb hbb hg3 f3 hSa hEa hSr hEr hf hss

                by_cases hid : L[j] = id
                · have tq := str_eq hid
                  have hdl : (delS S id L[j]).isSome = false := by simp [delS, hid]
                  rw [hdl] at hb3
                  clear hdl hid
                  generalize N L[j] = x at *
                  generalize (S L[j]).isSome = y at *
                  have hbh := hush hbc
                  have frz := frozen_of_row _ _ 5 _ _ hbc
                  have hfh : Fr wg' (w3.setCell ⟨wr.heap.size, 5, none⟩ (.bool false)) [] := hfr.trans (Fr.setCell _ _ _) (fun k hk hm => by simp at hm; omega)
                  have hb3h : (w3.setCell ⟨wr.heap.size, 5, none⟩ (.bool false)).heap[wb.heap.size]? = some (.cells (snapC x false) 47 (0, 0)) := by rw [heap_setCell_other _ _ _ _ (by intro e; simp at e; omega)]; exact hb3
                  simp [snapC] at cc3 cc4 cc5
                  clear hbc hb3 hEc hnm hwz ltb
                  go_wp2_with (with_reducible refine wpList_id ?_; first | (refine wpList_load_snap rfl (.tmp 30) rfl wb.heap.size (ev rfl) _ _ hb3h ?_) | (refine wpList_load_snap rfl (.tmp 29) rfl wr.heap.size (ev rfl) _ _ hbh ?_) | (refine wpList_neq_snap rfl (.tmp 216) (.tmp 217) 47 rfl (_) (_) (ev rfl) (ev rfl) ?_))
                  refine Handed.intro (L.length - (j + 1)) (by omega) (hJ5 _ _ _ ⟨j + 1, F5.lay rfl rfl rfl rfl rfl rfl rfl, gd rfl, gd rfl, ?_, rfl, by omega, hfh⟩)
                  show Value.int .i64 _ = _
                  go_num
                · have tq := str_ne hid
                  have hdl : (delS S id L[j]).isSome = (S L[j]).isSome := by simp [delS, hid]
                  rw [hdl] at hb3
                  clear hdl hid
                  generalize N L[j] = x at *
                  generalize (S L[j]).isSome = y at *
                  simp [snapC] at cc3 cc4 cc5
                  clear hEc hnm hwz ltb
                  go_wp2_with (with_reducible refine wpList_id ?_; first | (refine wpList_load_snap rfl (.tmp 30) rfl wb.heap.size (ev rfl) _ _ hb3 ?_) | (refine wpList_load_snap rfl (.tmp 29) rfl wr.heap.size (ev rfl) _ _ hbc ?_) | (refine wpList_neq_snap rfl (.tmp 216) (.tmp 217) 47 rfl (_) (_) (ev rfl) (ev rfl) ?_))
                  refine Handed.intro (L.length - (j + 1)) (by omega) (hJ5 _ _ _ ⟨j + 1, F5.lay rfl rfl rfl rfl rfl rfl rfl, gd rfl, gd rfl, ?_, rfl, by omega, hfr⟩)
                  show Value.int .i64 _ = _
                  go_num
            · have hvc' : (v == count) = false := by simpa using hvc
              clear hv2 hvc
              go_wp2_with fail
              refine wp_loop_ghost_k (fun g a wr => ∃ j : Nat, F5 a (.slice (some ⟨g1', o1, none⟩) L.length L.length) (.slice (some ⟨gk, 0, none⟩) K.length d2) (.slice (some ⟨gm, 0, none⟩) K.length d3) (.slice (some ⟨gw, 0, none⟩) K.length d4) (.pointer (some ⟨B + 16, 0, none⟩)) (.slice (some ⟨H, 0, none⟩) L.length L.length) ∧ a.tmps.getD 11 undef = .int .i64 k ∧ a.tmps.getD 22 undef = .string id ∧ a.tmps.getD 28 undef = .int .i64 j ∧ g = L.length - j ∧ j ≤ L.length ∧ Fr wg' wr []) L.length ?_ ?_
              · exact ⟨0, F5.lay rfl rfl rfl rfl rfl rfl rfl, gd rfl, gd rfl, gd rfl, rfl, Nat.zero_le _, Fr.refl _ _⟩
              · rintro g5 a wr ⟨j, hF, h11, x22, hji, hg5, hj, hf⟩ J5 K5 hJ5 hK5
                obtain ⟨fi, rfl, e0, e1, e2, e3, e9, e10, ef⟩ := hF.open
                have e11 : fi 11 = .int .i64 k := by rw [ef]; exact h11
                have e22 : fi 22 = .string id := by rw [ef]; exact x22
                have ej : fi 28 = .int .i64 j := by rw [ef]; exact hji
                simp only [fr5, e0, e1, e2, e3, e9, e10, e11, e22, ej]
                clear e0 e1 e2 e3 e9 e10 e11 ej ef h11 hji hF e22 x22
                have hSr := hSe.keep hf (by simp)
                have hEr := hEe.keep hf (by simp)
                by_cases hjl : j < L.length
                case neg =>
                  clear hSe hEe hJ5
                  go_wp2_with fail
                  exact Met.intro (hJ4 _ _ ⟨F5.lay rfl rfl rfl rfl rfl rfl rfl, gd rfl, _, F', _, _, Nat.le_refl _, hSr, hEr⟩)
                have cj := hEr.nm j hjl
                have j1 : (0 : Int) ≤ (j : Int) := Int.natCast_nonneg _
                have j2 : (j : Int) < (L.length : Int) := by omega
                have hss := hzz.out.2.2.2 L[j] (List.getElem_mem hjl)
                go_upto_region 37 with (with_reducible refine wpList_id ?_; first | (refine wpList_load_ev rfl (.tmp 201) rfl hEr hjl hjl _ (ev rfl) rfl ?_) | (refine wpList_store_snap rfl (.tmp 29) (.tmp 202) rfl wr.heap.size _ (ev rfl) _ _ (ev rfl) (heap_alloc_new _ _) rfl ?_; intro wa hba hga))
                have fa : Fr wr wa [] := made_fr hga
                have hSa := hSr.keep fa (by simp)
                have hEa := hEr.keep fa (by simp)
                have ZS := zzSnap wa B _ F' _ _ hSa.ni hSa.ws L[j] hss
                have cja := hEa.nm j hjl
                clear cj
                go_wp2_with fail
                refine ZS.mono ?_
                rintro e wb ⟨rfl, fb⟩
                have hbb := below_block fb hba (lt_of_block hba)
                have ltb := lt_of_block hbb
                go_upto_region 38 with (with_reducible refine wpList_id ?_; refine wpList_store_snap rfl (.tmp 30) (.tmp 208) rfl wb.heap.size _ (ev rfl) _ _ (ev rfl) (heap_alloc_new _ _) rfl ?_; intro w3 hb3 hg3)
                have f3 := made_fr hg3
                have hbc := f3.keepB hbb (by simp)
                have hfr : Fr wg' w3 [] := ((hf.trans fa (by simp)).trans (below_fr fb) (by simp)).trans f3 (by simp)
                have hEc := (hEa.keep (below_fr fb) (by simp)).keep f3 (by simp)
                have cj3 := hEc.nm j hjl
                have hnm := hEc.nm
                have cc3 := cell_of_row _ _ 3 _ _ _ hbc
                have cc4 := cell_of_row _ _ 4 _ _ _ hbc
                have cc5 := cell_of_row _ _ 5 _ _ _ hbc
                have hwz := hf.size
                clear cja ZS hba hga fa fb hbb hg3 f3 hSa hEa hSr hEr hf hss

                by_cases hid : L[j] = id
                · have tq := str_eq hid
                  have hdl : (delS S id L[j]).isSome = false := by simp [delS, hid]
                  rw [hdl] at hb3
                  clear hdl hid
                  generalize N L[j] = x at *
                  generalize (S L[j]).isSome = y at *
                  have hbh := hush hbc
                  have frz := frozen_of_row _ _ 5 _ _ hbc
                  have hfh : Fr wg' (w3.setCell ⟨wr.heap.size, 5, none⟩ (.bool false)) [] := hfr.trans (Fr.setCell _ _ _) (fun k hk hm => by simp at hm; omega)
                  have hb3h : (w3.setCell ⟨wr.heap.size, 5, none⟩ (.bool false)).heap[wb.heap.size]? = some (.cells (snapC x false) 47 (0, 0)) := by rw [heap_setCell_other _ _ _ _ (by intro e; simp at e; omega)]; exact hb3
                  simp [snapC] at cc3 cc4 cc5
                  clear hbc hb3 hEc hnm hwz ltb
                  go_wp2_with (with_reducible refine wpList_id ?_; first | (refine wpList_load_snap rfl (.tmp 30) rfl wb.heap.size (ev rfl) _ _ hb3h ?_) | (refine wpList_load_snap rfl (.tmp 29) rfl wr.heap.size (ev rfl) _ _ hbh ?_) | (refine wpList_neq_snap rfl (.tmp 216) (.tmp 217) 47 rfl (_) (_) (ev rfl) (ev rfl) ?_))
                  refine Handed.intro (L.length - (j + 1)) (by omega) (hJ5 _ _ _ ⟨j + 1, F5.lay rfl rfl rfl rfl rfl rfl rfl, gd rfl, gd rfl, ?_, rfl, by omega, hfh⟩)
                  show Value.int .i64 _ = _
                  go_num
                · have tq := str_ne hid
                  have hdl : (delS S id L[j]).isSome = (S L[j]).isSome := by simp [delS, hid]
                  rw [hdl] at hb3
                  clear hdl hid
                  generalize N L[j] = x at *
                  generalize (S L[j]).isSome = y at *
                  simp [snapC] at cc3 cc4 cc5
                  clear hEc hnm hwz ltb
                  go_wp2_with (with_reducible refine wpList_id ?_; first | (refine wpList_load_snap rfl (.tmp 30) rfl wb.heap.size (ev rfl) _ _ hb3 ?_) | (refine wpList_load_snap rfl (.tmp 29) rfl wr.heap.size (ev rfl) _ _ hbc ?_) | (refine wpList_neq_snap rfl (.tmp 216) (.tmp 217) 47 rfl (_) (_) (ev rfl) (ev rfl) ?_))
                  refine Handed.intro (L.length - (j + 1)) (by omega) (hJ5 _ _ _ ⟨j + 1, F5.lay rfl rfl rfl rfl rfl rfl rfl, gd rfl, gd rfl, ?_, rfl, by omega, hfr⟩)
                  show Value.int .i64 _ = _
                  go_num
end Go.Proofs.Qxb6003797a
