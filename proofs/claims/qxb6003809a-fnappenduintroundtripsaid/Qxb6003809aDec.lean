import Derived.Test.Qxb6003809aApp
import Derived.BigQuiet
import Derived.Deep.QuietTactic
namespace Go.Proofs.Qxb6003809a
open Go.RowKit

theorem or_step (z r : Int) (h0 : 0 ≤ z) (h1 : z < 72057594037927936) (h2 : 0 ≤ r) (h3 : r < 256) : bits .or .u64 (z * 256) r = z * 256 + r := by
  rw [u64_or _ _ (by omega) (by omega) h2 (by omega)]
  obtain ⟨a, rfl⟩ := Int.eq_ofNat_of_zero_le h0
  obtain ⟨b, rfl⟩ := Int.eq_ofNat_of_zero_le h2
  have hb : b < 2 ^ 8 := by omega
  have := Nat.shiftLeft_add_eq_or_of_lt hb a
  rw [Nat.shiftLeft_eq] at this
  rw [show ((a : Int) * 256).toNat = a * 2 ^ 8 by omega, show ((b : Int)).toNat = b by omega, ← this]
  omega

/-- What the first k of the m bytes say. -/
def vl (u : Int) (m k : Nat) : Int := u / 2 ^ (8 * (m - k))
theorem vl_step (u : Int) (m k : Nat) (h : k < m) : vl u m (k + 1) = vl u m k * 256 + bd u m k := by
  unfold vl bd
  have e1 : 8 * (m - k) = 8 * (m - (k + 1)) + 8 := by omega
  have e2 : m - 1 - k = m - (k + 1) := by omega
  rw [e1, e2, Int.pow_add, ← Int.ediv_ediv_of_nonneg (by exact Int.le_of_lt (Int.pow_pos (by decide)))]
  generalize u / 2 ^ (8 * (m - (k + 1))) = y
  omega
theorem vl_pos (u : Int) (m k : Nat) (h : 0 ≤ u) : 0 ≤ vl u m k := Int.ediv_nonneg h (Int.le_of_lt (Int.pow_pos (by decide)))
theorem vl_lt (u : Int) (m k : Nat) (h : 0 ≤ u) (h1 : u < 18446744073709551616) (hk : k < m) : vl u m k < 72057594037927936 := by
  unfold vl
  have e1 : 8 * (m - k) = 8 + 8 * (m - (k + 1)) := by omega
  rw [e1, Int.pow_add, ← Int.ediv_ediv_of_nonneg (by decide)]
  have h2 : u / 2 ^ 8 < 72057594037927936 := by omega
  have h3 : 0 ≤ u / 2 ^ 8 := by omega
  exact Int.lt_of_le_of_lt (Int.ediv_le_self _ h3) h2
theorem vl_0 (u : Int) (m : Nat) (h : 0 ≤ u) (h1 : u < 2 ^ (8 * m)) : vl u m 0 = 0 := Int.ediv_eq_zero_of_lt h h1
theorem vl_m (u : Int) (m : Nat) : vl u m m = u := by simp [vl]
theorem bd_pos (u : Int) (m k : Nat) : 0 ≤ bd u m k ∧ bd u m k < 256 := by unfold bd; omega

def DP (w : World) (u : Int) (n : Nat) (e : Ending) (w' : World) : Prop := e = .returned (.tuple #[.int .u64 u, .bool false, .int .i64 n, .bool true]) ∧ w' = w

set_option maxHeartbeats 1600000 in
theorem dec_small (w : World) (g off c : Nat) (u : Int) (h0 : 0 ≤ u) (h1 : u ≤ 127) (hc : w.cell? ⟨g, off, none⟩ = some (.int .u8 u)) :
    Calls Try.prog 15 #[.slice (some ⟨g, off, none⟩) 1 c] w (DP w u 1) := by
  go_enter Try.func15, Try.ntmps15
  go_wp2
  exact bodyPost_ret (v := .tuple #[.int .u64 u, .bool false, .int .i64 1, .bool true]) (by simp [results, Try.results15, go_sem]) rfl ⟨rfl, rfl⟩

set_option maxHeartbeats 3200000 in
theorem dec_0 (w : World) (g off c : Nat) (u : Int) (h0 : 0 ≤ u) (h1 : u < 256) (hc0 : w.cell? ⟨g, off, none⟩ = some (.int .u8 204)) (hc : ∀ k, k < 1 → w.cell? ⟨g, off + (k + 1), none⟩ = some (.int .u8 (bd u 1 k))) :
    Calls Try.prog 15 #[.slice (some ⟨g, off, none⟩) 2 c] w (DP w u 2) := by
  go_enter Try.func15, Try.ntmps15
  go_wp2_with fail
  go_loop [9, 10] (fun z i => ∃ k : Nat, k ≤ 1 ∧ i = .int .i64 ((k + 1 : Nat) : Int) ∧ z = .int .u64 (vl u 1 k)) (fun _ i => 2 - (intOf i).toNat)
  case atStart => exact ⟨0, Nat.zero_le _, rfl, by rw [vl_0 u 1 h0 h1]⟩
  case round =>
    obtain ⟨k, hk, rfl, rfl⟩ := hrel
    by_cases hkm : k < 1
    · have ck := hc k hkm
      obtain ⟨r0, r1⟩ := bd_pos u 1 k
      have z0 := vl_pos u 1 k h0
      have z1 := vl_lt u 1 k h0 (by omega) hkm
      have HS : Hid (vl u 1 (k + 1) = vl u 1 k * 256 + bd u 1 k) := vl_step u 1 k hkm
      generalize vl u 1 k = z at *
      generalize bd u 1 k = r at *
      have HO := or_step z r z0 z1 r0 r1
      have i1 : (0 : Int) ≤ ((k + 1 : Nat) : Int) := Int.natCast_nonneg _
      have i2 : ((k + 1 : Nat) : Int) < 2 := by omega
      clear hc
      go_wp2
      go_round
      case rel => exact ⟨k + 1, by omega, by go_num, by rw [HS.out]⟩
      case measure => simp [intOf]; omega
    · obtain rfl : k = 1 := by omega
      rw [vl_m]
      clear hc
      go_wp2
      exact bodyPost_ret (v := .tuple #[.int .u64 u, .bool false, .int .i64 2, .bool true]) (by simp [results, Try.results15, go_sem]) rfl ⟨rfl, rfl⟩

set_option maxHeartbeats 3200000 in
theorem dec_1 (w : World) (g off c : Nat) (u : Int) (h0 : 0 ≤ u) (h1 : u < 65536) (hc0 : w.cell? ⟨g, off, none⟩ = some (.int .u8 205)) (hc : ∀ k, k < 2 → w.cell? ⟨g, off + (k + 1), none⟩ = some (.int .u8 (bd u 2 k))) :
    Calls Try.prog 15 #[.slice (some ⟨g, off, none⟩) 3 c] w (DP w u 3) := by
  go_enter Try.func15, Try.ntmps15
  go_wp2_with fail
  go_loop [9, 10] (fun z i => ∃ k : Nat, k ≤ 2 ∧ i = .int .i64 ((k + 1 : Nat) : Int) ∧ z = .int .u64 (vl u 2 k)) (fun _ i => 3 - (intOf i).toNat)
  case atStart => exact ⟨0, Nat.zero_le _, rfl, by rw [vl_0 u 2 h0 h1]⟩
  case round =>
    obtain ⟨k, hk, rfl, rfl⟩ := hrel
    by_cases hkm : k < 2
    · have ck := hc k hkm
      obtain ⟨r0, r1⟩ := bd_pos u 2 k
      have z0 := vl_pos u 2 k h0
      have z1 := vl_lt u 2 k h0 (by omega) hkm
      have HS : Hid (vl u 2 (k + 1) = vl u 2 k * 256 + bd u 2 k) := vl_step u 2 k hkm
      generalize vl u 2 k = z at *
      generalize bd u 2 k = r at *
      have HO := or_step z r z0 z1 r0 r1
      have i1 : (0 : Int) ≤ ((k + 1 : Nat) : Int) := Int.natCast_nonneg _
      have i2 : ((k + 1 : Nat) : Int) < 3 := by omega
      clear hc
      go_wp2
      go_round
      case rel => exact ⟨k + 1, by omega, by go_num, by rw [HS.out]⟩
      case measure => simp [intOf]; omega
    · obtain rfl : k = 2 := by omega
      rw [vl_m]
      clear hc
      go_wp2
      exact bodyPost_ret (v := .tuple #[.int .u64 u, .bool false, .int .i64 3, .bool true]) (by simp [results, Try.results15, go_sem]) rfl ⟨rfl, rfl⟩

set_option maxHeartbeats 3200000 in
theorem dec_2 (w : World) (g off c : Nat) (u : Int) (h0 : 0 ≤ u) (h1 : u < 4294967296) (hc0 : w.cell? ⟨g, off, none⟩ = some (.int .u8 206)) (hc : ∀ k, k < 4 → w.cell? ⟨g, off + (k + 1), none⟩ = some (.int .u8 (bd u 4 k))) :
    Calls Try.prog 15 #[.slice (some ⟨g, off, none⟩) 5 c] w (DP w u 5) := by
  go_enter Try.func15, Try.ntmps15
  go_wp2_with fail
  go_loop [9, 10] (fun z i => ∃ k : Nat, k ≤ 4 ∧ i = .int .i64 ((k + 1 : Nat) : Int) ∧ z = .int .u64 (vl u 4 k)) (fun _ i => 5 - (intOf i).toNat)
  case atStart => exact ⟨0, Nat.zero_le _, rfl, by rw [vl_0 u 4 h0 h1]⟩
  case round =>
    obtain ⟨k, hk, rfl, rfl⟩ := hrel
    by_cases hkm : k < 4
    · have ck := hc k hkm
      obtain ⟨r0, r1⟩ := bd_pos u 4 k
      have z0 := vl_pos u 4 k h0
      have z1 := vl_lt u 4 k h0 (by omega) hkm
      have HS : Hid (vl u 4 (k + 1) = vl u 4 k * 256 + bd u 4 k) := vl_step u 4 k hkm
      generalize vl u 4 k = z at *
      generalize bd u 4 k = r at *
      have HO := or_step z r z0 z1 r0 r1
      have i1 : (0 : Int) ≤ ((k + 1 : Nat) : Int) := Int.natCast_nonneg _
      have i2 : ((k + 1 : Nat) : Int) < 5 := by omega
      clear hc
      go_wp2
      go_round
      case rel => exact ⟨k + 1, by omega, by go_num, by rw [HS.out]⟩
      case measure => simp [intOf]; omega
    · obtain rfl : k = 4 := by omega
      rw [vl_m]
      clear hc
      go_wp2
      exact bodyPost_ret (v := .tuple #[.int .u64 u, .bool false, .int .i64 5, .bool true]) (by simp [results, Try.results15, go_sem]) rfl ⟨rfl, rfl⟩

set_option maxHeartbeats 3200000 in
theorem dec_3 (w : World) (g off c : Nat) (u : Int) (h0 : 0 ≤ u) (h1 : u < 18446744073709551616) (hc0 : w.cell? ⟨g, off, none⟩ = some (.int .u8 207)) (hc : ∀ k, k < 8 → w.cell? ⟨g, off + (k + 1), none⟩ = some (.int .u8 (bd u 8 k))) :
    Calls Try.prog 15 #[.slice (some ⟨g, off, none⟩) 9 c] w (DP w u 9) := by
  go_enter Try.func15, Try.ntmps15
  go_wp2_with fail
  go_loop [9, 10] (fun z i => ∃ k : Nat, k ≤ 8 ∧ i = .int .i64 ((k + 1 : Nat) : Int) ∧ z = .int .u64 (vl u 8 k)) (fun _ i => 9 - (intOf i).toNat)
  case atStart => exact ⟨0, Nat.zero_le _, rfl, by rw [vl_0 u 8 h0 h1]⟩
  case round =>
    obtain ⟨k, hk, rfl, rfl⟩ := hrel
    by_cases hkm : k < 8
    · have ck := hc k hkm
      obtain ⟨r0, r1⟩ := bd_pos u 8 k
      have z0 := vl_pos u 8 k h0
      have z1 := vl_lt u 8 k h0 (by omega) hkm
      have HS : Hid (vl u 8 (k + 1) = vl u 8 k * 256 + bd u 8 k) := vl_step u 8 k hkm
      generalize vl u 8 k = z at *
      generalize bd u 8 k = r at *
      have HO := or_step z r z0 z1 r0 r1
      have i1 : (0 : Int) ≤ ((k + 1 : Nat) : Int) := Int.natCast_nonneg _
      have i2 : ((k + 1 : Nat) : Int) < 9 := by omega
      clear hc
      go_wp2
      go_round
      case rel => exact ⟨k + 1, by omega, by go_num, by rw [HS.out]⟩
      case measure => simp [intOf]; omega
    · obtain rfl : k = 8 := by omega
      rw [vl_m]
      clear hc
      go_wp2
      exact bodyPost_ret (v := .tuple #[.int .u64 u, .bool false, .int .i64 9, .bool true]) (by simp [results, Try.results15, go_sem]) rfl ⟨rfl, rfl⟩

/-- The reader reads what appendUint has written. -/
theorem decode (w : World) (g off c : Nat) (u : Int) (h0 : 0 ≤ u) (h1 : u < 18446744073709551616) (hc : ∀ j (h : j < (enc u).length), w.cell? ⟨g, off + j, none⟩ = some (.int .u8 (enc u)[j])) :
    Calls Try.prog 15 #[.slice (some ⟨g, off, none⟩) (enc u).length c] w (DP w u (enc u).length) := by
  have big : ∀ (d : Int) (m : Nat), enc u = d :: be u m → w.cell? ⟨g, off, none⟩ = some (.int .u8 d) ∧ ∀ k, k < m → w.cell? ⟨g, off + (k + 1), none⟩ = some (.int .u8 (bd u m k)) := by
    intro d m e
    have hc' : ∀ j x, (enc u)[j]? = some x → w.cell? ⟨g, off + j, none⟩ = some (.int .u8 x) := fun j x hx => by
      obtain ⟨hj, rfl⟩ := List.getElem?_eq_some_iff.1 hx
      exact hc j hj
    rw [e] at hc'
    exact ⟨hc' 0 d rfl, fun k hk => hc' (k + 1) _ (by simp [be, hk])⟩
  have hl : ∀ (d : Int) (m : Nat), enc u = d :: be u m → (enc u).length = m + 1 := fun d m e => by rw [e, List.length_cons, be_len]
  by_cases c0 : u ≤ 127
  · have e : enc u = [u] := by simp [enc, c0]
    have := hc 0 (by rw [e]; exact Nat.zero_lt_one)
    simp only [e, List.getElem_cons_zero, Nat.add_zero] at this
    rw [e]
    exact dec_small w g off c u h0 c0 this
  by_cases c1 : u < 256
  · have e : enc u = 204 :: be u 1 := by simp [enc, c0, c1]
    obtain ⟨a1, a2⟩ := big _ _ e
    rw [hl _ _ e]
    exact dec_0 w g off c u h0 c1 a1 a2
  by_cases c2 : u < 65536
  · have e : enc u = 205 :: be u 2 := by simp [enc, c0, c1, c2]
    obtain ⟨a1, a2⟩ := big _ _ e
    rw [hl _ _ e]
    exact dec_1 w g off c u h0 c2 a1 a2
  by_cases c3 : u < 4294967296
  · have e : enc u = 206 :: be u 4 := by simp [enc, c0, c1, c2, c3]
    obtain ⟨a1, a2⟩ := big _ _ e
    rw [hl _ _ e]
    exact dec_2 w g off c u h0 c3 a1 a2
  · have e : enc u = 207 :: be u 8 := by simp [enc, c0, c1, c2, c3]
    obtain ⟨a1, a2⟩ := big _ _ e
    rw [hl _ _ e]
    exact dec_3 w g off c u h0 h1 a1 a2

theorem enc_len (u : Int) : 0 < (enc u).length ∧ (enc u).length ≤ 9 := by
  unfold enc
  repeat' split
  all_goals simp [be_len]

/-- The same memory. -/
structure Sm (w w' : World) : Prop where
  os : w'.os = w.os
  tape : w'.tape = w.tape
  output : w'.output = w.output
  heap : w'.heap = w.heap
theorem Sm.refl (w : World) : Sm w w := ⟨rfl, rfl, rfl, rfl⟩
theorem Sm.trans {a b c : World} (h : Sm a b) (k : Sm b c) : Sm a c := ⟨k.os.trans h.os, k.tape.trans h.tape, k.output.trans h.output, k.heap.trans h.heap⟩
theorem Sm.drewN (w : World) (n : Nat) : Sm w (w.drewN n) := ⟨rfl, rfl, rfl, rfl⟩
theorem Sm.below {w w' : World} (h : Sm w w') (B : Nat) : Below B w w' := ⟨h.os, h.tape, h.output, by rw [h.heap]; exact Nat.le_refl _, fun k _ => by rw [h.heap]⟩
theorem Sm.cell {w w' : World} (h : Sm w w') (a : Addr) : w'.cell? a = w.cell? a := World.cell?_of_block (by rw [h.heap])

set_option maxHeartbeats 1600000 in
theorem prefix_some (w : World) (g n c g2 c2 : Nat) (L : List Int) (hn : L.length ≤ n) (hm : n ≤ 1000000) (hc : ∀ j (h : j < L.length), w.cell? ⟨g, j, none⟩ = some (.int .u8 L[j])) (hc2 : ∀ j (h : j < L.length), w.cell? ⟨g2, j, none⟩ = some (.int .u8 L[j])) :
    Calls Try.prog 14 #[.slice (some ⟨g, 0, none⟩) n c, .slice (some ⟨g2, 0, none⟩) L.length c2] w fun e w' => e = .returned (.bool true) ∧ Sm w w' := by
  go_enter Try.func14, Try.ntmps14
  go_wp2_with fail
  go_loopw [5] (fun i wr => ∃ k : Nat, k ≤ L.length ∧ i = .int .i64 k ∧ Sm w wr) (fun i _ => L.length - (intOf i).toNat)
  case atStart => exact ⟨0, Nat.zero_le _, rfl, Sm.refl _⟩
  case round =>
    obtain ⟨k, hk, rfl, hsm⟩ := hrel
    by_cases hkl : k < L.length
    · have cj := hc k hkl
      have cj2 := hc2 k hkl
      rw [← hsm.cell] at cj cj2
      have i1 : (0 : Int) ≤ (k : Int) := Int.natCast_nonneg _
      have i2 : (k : Int) < (L.length : Int) := by omega
      have i3 : (k : Int) < (n : Int) := by omega
      clear hc hc2
      go_wp2_with fail
      go_quiet (fail)
      go_wp2_with fail
      go_roundw
      case rel => exact ⟨k + 1, by omega, by go_num, hsm.trans (Sm.drewN _ _)⟩
      case measure => simp [intOf]; omega
    · go_wp2
      go_ret
      exact ⟨rfl, hsm⟩

set_option maxHeartbeats 800000 in
theorem prefix_none (w : World) (g n c c2 : Nat) (a : Option Addr) :
    Calls Try.prog 14 #[.slice (some ⟨g, 0, none⟩) n c, .slice a 0 c2] w fun e w' => e = .returned (.bool true) ∧ Sm w w' := by
  go_enter Try.func14, Try.ntmps14
  go_wp2_with fail
  refine wp_loop_rounds 1 ?_
  rw [rounds_succ]
  go_wp2
  go_ret
  exact ⟨rfl, Sm.refl _⟩
end Go.Proofs.Qxb6003809a
