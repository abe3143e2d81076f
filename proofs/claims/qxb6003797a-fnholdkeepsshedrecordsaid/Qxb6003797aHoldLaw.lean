import Derived.Test.Qxb6003797aHold4
import Derived.Test.Qxb6003797aBytes
import Derived.Test.Qxb6003797aReach
import Derived.BigQuiet
import Derived.Deep.QuietTactic
namespace Go.Proofs.Qxb6003797a
open Go.RowKit

/-- What lies below a bound stays a list of strings where no more than the blocks from there on change. -/
theorem SS.on {w w1 : World} {a : Option Addr} {c : Nat} {L : List ByteArray} (h : SS w a c L) (hf : Below w.heap.size w w1) : SS w1 a c L := by
  rcases h with h | ⟨b, off, e, hb, h0, hc⟩
  · exact .inl h
  · exact (SS.below (.inr ⟨b, off, e, hb, h0, hc⟩) hf fun b' off' e' => by rw [e] at e'; cases e'; exact hb)

/-- What the law's part up to the four clones has in hand. -/
def LawOk (w : World) (e : Ending) (w' : World) : Prop := e = .returned (.bool true) ∧ Below w.heap.size w w'

/-- A name of more than 2^20 bytes is let through. -/
theorem bytes32_big (o : ByteArray) (x y : Int) (a1 : Option Addr) (n1 c1 : Nat) (a2 : Option Addr) (n2 c2 : Nat) (a3 : Option Addr) (n3 c3 : Nat) (a4 : Option Addr) (n4 c4 : Nat) (w : World) (g0 : 1048576 < o.size) (m0 : o.size ≤ 9223372036854775807) :
    Calls Try.prog 32 #[.string o, .int .u64 x, .int .u64 y, .slice a1 n1 c1, .slice a2 n2 c2, .slice a3 n3 c3, .slice a4 n4 c4] w fun e w' => e = .returned (.bool false) ∧ w' = w := by
  go_enter Try.func32, Try.ntmps32
  go_wp2
  go_ret
  exact ⟨rfl, rfl⟩

set_option maxRecDepth 100000 in
set_option maxHeartbeats 4000000 in
theorem holdLaw (o : ByteArray) (x y : Int) (a1 : Option Addr) (c1 : Nat) (L1 : List ByteArray) (a2 : Option Addr) (c2 : Nat) (L2 : List ByteArray) (a3 : Option Addr) (c3 : Nat) (L3 : List ByteArray) (a4 : Option Addr) (c4 : Nat) (L4 : List ByteArray) (w : World)
    (h1 : SS w a1 c1 L1) (h2 : SS w a2 c2 L2) (h3 : SS w a3 c3 L3) (h4 : SS w a4 c4 L4) (m0 : o.size ≤ 9223372036854775807) (m1 : L1.length ≤ 9223372036854775807) (m2 : L2.length ≤ 9223372036854775807) (m3 : L3.length ≤ 9223372036854775807) (m4 : L4.length ≤ 9223372036854775807) (hs1 : ∀ s ∈ L1, s.size ≤ maxLen) :
    Calls Try.prog 6 #[.string o, .int .u64 x, .int .u64 y, .slice a1 L1.length c1, .slice a2 L2.length c2, .slice a3 L3.length c3, .slice a4 L4.length c4] w (LawOk w) := by
  by_cases g0 : 1048576 < o.size
  · go_enter Try.func6, Try.ntmps6
    go_wp2_with fail
    refine (bytes32_big o x y a1 _ c1 a2 _ c2 a3 _ c3 a4 _ c4 w g0 m0).mono ?_
    rintro e w' ⟨rfl, rfl⟩
    go_wp2
    go_ret
    exact ⟨rfl, Below.refl _ _⟩
  have HB := bytes32 o x y a1 c1 L1 a2 c2 L2 a3 c3 L3 a4 c4 L4 w h1 h2 h3 h4 m0 m1 m2 m3 m4
  by_cases g1 : 64 < L1.length
  · go_enter Try.func6, Try.ntmps6
    go_wp2_with fail
    refine HB.mono ?_
    rintro e w' ⟨r, rfl, rfl, hr⟩
    cases r <;> (go_wp2; go_ret; exact ⟨rfl, Below.refl _ _⟩)
  by_cases g2 : 64 < L2.length
  · go_enter Try.func6, Try.ntmps6
    go_wp2_with fail
    refine HB.mono ?_
    rintro e w' ⟨r, rfl, rfl, hr⟩
    cases r <;> (go_wp2; go_ret; exact ⟨rfl, Below.refl _ _⟩)
  by_cases g3 : 64 < L3.length
  · go_enter Try.func6, Try.ntmps6
    go_wp2_with fail
    refine HB.mono ?_
    rintro e w' ⟨r, rfl, rfl, hr⟩
    cases r <;> (go_wp2; go_ret; exact ⟨rfl, Below.refl _ _⟩)
  by_cases g4 : 64 < L4.length
  · go_enter Try.func6, Try.ntmps6
    go_wp2_with fail
    refine HB.mono ?_
    rintro e w' ⟨r, rfl, rfl, hr⟩
    cases r <;> (go_wp2; go_ret; exact ⟨rfl, Below.refl _ _⟩)
  go_enter Try.func6, Try.ntmps6
  go_wp2_with fail
  refine HB.mono ?_
  rintro e w' ⟨r, rfl, rfl, hr⟩
  clear HB
  cases r
  · go_wp2
    go_ret
    exact ⟨rfl, Below.refl _ _⟩
  have t1 := hr rfl L1 (by simp)
  have t2 := hr rfl L2 (by simp)
  have t3 := hr rfl L3 (by simp)
  have t4 := hr rfl L4 (by simp)
  clear hr
  go_wp2_with fail
  by_cases gs : 65536 < o.size + (16 * L1.length + tot L1) + (16 * L2.length + tot L2) + (16 * L3.length + tot L3) + (16 * L4.length + tot L4)
  · refine (strBytes_ss _ a1 c1 L1 h1 t1).mono ?_
    rintro e w' ⟨rfl, rfl⟩
    go_wp2_with fail
    refine (strBytes_ss _ a2 c2 L2 h2 t2).mono ?_
    rintro e w' ⟨rfl, rfl⟩
    go_wp2_with fail
    refine (strBytes_ss _ a3 c3 L3 h3 t3).mono ?_
    rintro e w' ⟨rfl, rfl⟩
    go_wp2_with fail
    refine (strBytes_ss _ a4 c4 L4 h4 t4).mono ?_
    rintro e w' ⟨rfl, rfl⟩
    go_wp2
    go_ret
    exact ⟨rfl, Below.refl _ _⟩
  refine (strBytes_ss _ a1 c1 L1 h1 t1).mono ?_
  rintro e w' ⟨rfl, rfl⟩
  go_wp2_with fail
  refine (strBytes_ss _ a2 c2 L2 h2 t2).mono ?_
  rintro e w' ⟨rfl, rfl⟩
  go_wp2_with fail
  refine (strBytes_ss _ a3 c3 L3 h3 t3).mono ?_
  rintro e w' ⟨rfl, rfl⟩
  go_wp2_with fail
  refine (strBytes_ss _ a4 c4 L4 h4 t4).mono ?_
  rintro e w' ⟨rfl, rfl⟩
  go_wp2_with fail
  refine (clone_ss _ a1 c1 L1 h1 (by omega)).mono ?_
  rintro e w1 ⟨b1, rfl, n1, k1, s1, f1, -⟩
  go_wp2_with fail
  refine (clone_ss _ a2 c2 L2 (h2.on f1) (by omega)).mono ?_
  rintro e w2 ⟨b2, rfl, n2, k2, s2, f2, -⟩
  go_wp2_with fail
  have f12 := f1.trans (f2.mono f1.size)
  refine (clone_ss _ a3 c3 L3 (h3.on f12) (by omega)).mono ?_
  rintro e w3 ⟨b3, rfl, n3, k3, s3, f3, -⟩
  go_wp2_with fail
  have f13 := f12.trans (f3.mono f12.size)
  refine (clone_ss _ a4 c4 L4 (h4.on f13) (by omega)).mono ?_
  rintro e w4 ⟨b4, rfl, n4, k4, s4, f4, -⟩
  go_wp2_with fail
  have f14 := f13.trans (f4.mono f13.size)
  refine (zzNewNode w4).mono ?_
  rintro e w5 ⟨rfl, hn, f5⟩
  have hlt5 := hn.lt
  have f25 := ((f2.trans (f3.mono f2.size)).trans (f4.mono (f2.trans (f3.mono f2.size)).size)).trans (f5.mono ((f2.trans (f3.mono f2.size)).trans (f4.mono (f2.trans (f3.mono f2.size)).size)).size)
  have s1b := s1.on f25
  have s4b := s4.on f5
  have f15 := f14.trans (f5.mono f14.size)
  have hk1 : ∀ b off, b1 = some ⟨b, off, none⟩ → b < w4.heap.size + 1 := fun b off e => by rw [k1 b off e]; exact Nat.lt_succ_of_le f14.size
  have hb2 : b2 = none → L2.length = 0 ∧ L2.length = 0 := fun e => by rw [(s2.nil e).1]; exact ⟨rfl, rfl⟩
  have hb3 : b3 = none → L3.length = 0 ∧ L3.length = 0 := fun e => by rw [(s3.nil e).1]; exact ⟨rfl, rfl⟩
  clear k1 k2 k3 k4 n1 n2 n3 n4 s1 s2 s3 s4
  go_wp2_with fail
  refine (clone_ss w5 b1 _ L1 s1b (by omega)).mono ?_
  rintro e w6 ⟨bk, rfl, n6, k6, s6, f6, -⟩
  have hk6 : ∀ b off, bk = some ⟨b, off, none⟩ → b < w4.heap.size + 1 ∨ w4.heap.size + 1 + 16 < b := fun b off e => .inr (by rw [k6 b off e]; exact hlt5)
  have hn6 := hn.keep (below_fr f6) (by simp)
  have s1c := s1b.on f6
  have s4c := s4b.on f6
  have f16 := f15.trans (f6.mono f15.size)
  go_wp2_with fail
  refine (zzHold w6 (w4.heap.size + 1) 2 F0 hn6 o x y bk _ L1 s6 hk6 (by omega) (by omega) hs1 m0 b2 _ _ b3 _ _ hb2 hb3 b4 _ L4 s4c (by omega) rfl).mono ?_
  rintro e w7 ⟨rfl, f', hn7, ho7, hL7, hf7⟩
  have f17 := f16.trans (hf7.below (B := w'.heap.size) f16.size (fun k hk => by
    have := f14.size
    simp at hk
    omega))
  have s1d := s1c.keep hf7 (fun b off e hm => by
    have := hk1 b off e
    simp at hm
    omega)
  have s6d := s6.keep hf7 (fun b off e hm => by
    have := k6 b off e
    simp at hm
    omega)
  have hre : (putF F0.re o (.agg (RECC o x y (.slice bk L1.length L1.length)))) o = some (.agg (RECC o x y (.slice bk L1.length L1.length))) := putF_same _ _ _
  have hpe : (putF F0.pe o (.bool true)) o = some (.bool true) := putF_same _ _ _
  go_wp2_with fail
  refine (record_some w7 (w4.heap.size + 1) _ _ hn7 o o x y bk _ _ m0 hre).mono ?_
  rintro e w8 ⟨rfl, f8⟩
  have hn8 := hn7.keep (below_fr f8) (by simp)
  have s1e := s1d.on f8
  have s6e := s6d.on f8
  have f18 := f17.trans (f8.mono f17.size)
  go_wp2_with fail
  refine (hears_some w8 (w4.heap.size + 1) _ _ hn8 o o x y bk _ _ m0 hre).mono ?_
  rintro e w9 ⟨rfl, rfl⟩
  clear hre f25 f12 f13 f15 f16 f17 hn hn6 hn7 s1b s1c s1d s6 s6d s4b s4c
  go_wp2_with fail
  go_loopw [21] (fun i wr => ∃ k : Nat, k ≤ L1.length ∧ i = .int .i64 k ∧ Sm w9 wr) (fun i _ => L1.length - (intOf i).toNat)
  case atStart => exact ⟨0, Nat.zero_le _, rfl, Sm.refl _⟩
  case round =>
    obtain ⟨k, hk, rfl, hsm⟩ := hrel
    by_cases hkl : k < L1.length
    · obtain ⟨g1, o1, rfl, -, hc1⟩ := (s1e.keep hsm.fr (by simp)).at (by omega)
      obtain ⟨g6, o6, rfl, -, hc6⟩ := (s6e.keep hsm.fr (by simp)).at (by omega)
      have cj := hc1 k hkl
      have cj2 := hc6 k hkl
      have i1 : (0 : Int) ≤ (k : Int) := Int.natCast_nonneg _
      have i2 : (k : Int) < (L1.length : Int) := by omega
      have tq : (L1[k].toList == L1[k].toList) = true := str_eq rfl
      clear hc1 hc6 hk1 hk6 k6 hL7
      go_wp2_with fail
      go_quiet (fail)
      go_wp2_with fail
      go_roundw
      case rel => exact ⟨k + 1, by omega, by go_num, hsm.trans (Sm.drewN _ _)⟩
      case measure => simp [intOf]; omega
    · have hN := hn8.same hsm
      go_wp2_with fail
      refine (pending_some wr (w4.heap.size + 1) _ _ hN o m0 true hpe).mono ?_
      rintro e wa ⟨rfl, rfl⟩
      go_wp2_with fail
      refine (heard_some wa (w4.heap.size + 1) _ _ hN o m0 ho7).mono ?_
      rintro e wb ⟨rfl, rfl⟩
      go_wp2_with fail
      go_loop [22] (fun i => ∃ k : Nat, k ≤ L1.length ∧ i = .int .i64 k) (fun i => L1.length - (intOf i).toNat)
      case atStart => exact ⟨0, Nat.zero_le _, rfl⟩
      case round =>
        obtain ⟨j, hj, rfl⟩ := hrel
        by_cases hjl : j < L1.length
        · obtain ⟨g1, o1, rfl, -, hc1⟩ := (s1e.keep hsm.fr (by simp)).at (by omega)
          have cj := hc1 j hjl
          have i1 : (0 : Int) ≤ (j : Int) := Int.natCast_nonneg _
          have i2 : (j : Int) < (L1.length : Int) := by omega
          have hjL := hL7 L1[j] (List.getElem_mem hjl)
          have hjs := hs1 L1[j] (List.getElem_mem hjl)
          clear hc1 hk1 hk6 k6 hL7 hs1
          go_wp2_with fail
          refine (heard_some wb (w4.heap.size + 1) _ _ hN L1[j] hjs hjL).mono ?_
          rintro e wc ⟨rfl, rfl⟩
          go_wp2_with fail
          go_round
          case rel => exact ⟨j + 1, by omega, by go_num⟩
          case measure => simp [intOf]; omega
        · go_wp2
          go_ret
          exact ⟨rfl, f18.trans (hsm.below _)⟩
end Go.Proofs.Qxb6003797a
