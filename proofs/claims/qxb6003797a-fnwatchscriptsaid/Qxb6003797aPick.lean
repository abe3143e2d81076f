import Derived.Test.Qxb6003797aNodes
import Derived.Test.Qxb6003797aReach
import Derived.Deep.AppendLies
import Derived.Laws.Shifts
import Derived.Laws.BitsAllLaws
namespace Go.Proofs.Qxb6003797a
open Go.RowKit

/-- Bit j of m. -/
def bit (m : Int) (j : Nat) : Bool := m / 2 ^ j % 2 == 1
/-- The names whose bit is set, of the first k. -/
def picked (L : List ByteArray) (m : Int) (sh : Nat) : Nat → List ByteArray
  | 0 => []
  | k + 1 => picked L m sh k ++ (if bit m (sh + k) then (L[k]?).toList else [])
theorem picked_len (L : List ByteArray) (m : Int) (sh k : Nat) : (picked L m sh k).length ≤ k := by
  induction k with
  | zero => simp [picked]
  | succ k ih =>
    unfold picked
    split
    · cases L[k]? <;> simp <;> omega
    · simp; omega

theorem and_one (x : Int) (h0 : 0 ≤ x) (h1 : x < 4294967296) : bits .and .u32 x 1 = x % 2 := by
  rw [u32_and _ _ h0 h1 (by decide) (by decide)]
  obtain ⟨a, rfl⟩ := Int.eq_ofNat_of_zero_le h0
  have : ((a : Int).toNat &&& (1 : Int).toNat) = a % 2 := by
    show a &&& 1 = a % 2
    exact Nat.and_one_is_mod a
  rw [this]
  omega

theorem own_baseV {w : World} {B e n c : Nat} {a : Option Addr} {xs : List Value} (h : w.ownsRow B e 1 (.slice a n c) n xs) : ∀ k, (Value.slice a n c).ownBlock = some k → B ≤ k := by
  intro k hk
  rcases h.2 with ⟨h', _⟩ | ⟨g', cap', cur, h', hb, _⟩
  · rw [h'] at hk; cases hk
  · rw [h'] at hk; cases hk; exact hb

/-- A slice of names in new memory. -/
def PickPost (w : World) (M : List ByteArray) (e : Ending) (w' : World) : Prop :=
  ∃ a c, e = .returned (.slice a M.length c) ∧ w'.ownsRow w.heap.size 9 1 (.slice a M.length c) M.length (M.map Value.string) ∧ Below w.heap.size w w'

set_option maxRecDepth 100000 in
set_option maxHeartbeats 1600000 in
theorem zzPick (w : World) (b off c : Nat) (L : List ByteArray) (m : Int) (sh : Nat) (hL : L.length ≤ 8) (hsh : sh ≤ 16) (h0 : 0 ≤ m) (h1 : m < 4294967296) (hb : b < w.heap.size) (hc : ∀ j (h : j < L.length), w.cell? ⟨b, off + j, none⟩ = some (.string L[j])) :
    Calls Try.prog 24 #[.slice (some ⟨b, off, none⟩) L.length c, .int .u32 m, .int .u64 sh] w (PickPost w (picked L m sh L.length)) := by
  obtain ⟨i9, hi9, z90, z91, z92⟩ := info_parts info9
  go_enter Try.func24, Try.ntmps24
  go_wp2_with fail
  go_loopw [7, 8] (fun v i wr => ∃ (k : Nat) (a : Option Addr) (cp : Nat), k ≤ L.length ∧ i = .int .i64 k ∧ v = .slice a (picked L m sh k).length cp ∧ wr.ownsRow w.heap.size 9 1 (.slice a (picked L m sh k).length cp) (picked L m sh k).length ((picked L m sh k).map Value.string) ∧ Below w.heap.size w wr) (fun _ i _ => L.length - (intOf i).toNat)
  case atStart => exact ⟨0, none, 0, Nat.zero_le _, rfl, rfl, ⟨by simp [picked], .inl ⟨rfl, rfl⟩⟩, Below.refl _ _⟩
  case round =>
    obtain ⟨k, a, cp, hk, rfl, rfl, hO, hB⟩ := hrel
    by_cases hkl : k < L.length
    · have ck : wr.cell? ⟨b, off + k, none⟩ = some (.string L[k]) := by rw [hB.cell (p := ⟨b, off + k, none⟩) hb]; exact hc k hkl
      have hln := picked_len L m sh k
      have i1 : (0 : Int) ≤ (k : Int) := Int.natCast_nonneg _
      have i2 : (k : Int) < (L.length : Int) := by omega
      have hm0 : 0 ≤ m / 2 ^ (sh + k) := Int.ediv_nonneg h0 (Int.le_of_lt (Int.pow_pos (by decide)))
      have hm1 : m / 2 ^ (sh + k) < 4294967296 := Int.lt_of_le_of_lt (Int.ediv_le_self _ h0) h1
      have ha := and_one _ hm0 hm1
      cases hbit : bit m (sh + k) with
      | true =>
        have hq : (m / 2 ^ (sh + k) % 2 == 1) = true := hbit
        have hpk : picked L m sh (k + 1) = picked L m sh k ++ [L[k]] := by
          show picked L m sh k ++ (if bit m (sh + k) then (L[k]?).toList else []) = _
          rw [hbit, List.getElem?_eq_getElem hkl]
          rfl
        have hob := own_baseV hO
        have hsz := hB.size
        generalize hP : picked L m sh k = Pk at *
        generalize hP1 : picked L m sh (k + 1) = Pk1 at *
        clear hbit hc hP
        go_wp2_with (at_builtin; refine wpList_append_lies _ rfl (.tmp 23) (.tmp 28) 22 rfl w.heap.size 9 i9 _ 1 16 Try.underlying22 hi9 z90 z91 z92 rfl (by decide) (.slice a Pk.length cp) Pk.length (Pk.map Value.string) rfl (hO.alloc _) ⟨wr.heap.size, 0, none⟩ 1 1 [.string L[k]] rfl rfl (cell_one_new _ _ _) (by simp [Value.oneCell']) (by decide) (by unfold maxLen; omega) (by omega) (by simp; omega) (wr.heap.size + 1) (by simp) ?_; intro gD capD w2 hoD hgD hlD hltD)
        go_roundw
        case rel => exact ⟨k + 1, some ⟨gD, 0, none⟩, capD, by omega, by go_num, by rw [hP1, hpk]; simp, by rw [hP1, hpk]; simpa using hoD, (hB.alloc hsz _).grown hgD (by simp; omega) hob⟩
        case measure => simp [intOf]; omega
      | false =>
        have hq : (m / 2 ^ (sh + k) % 2 == 1) = false := hbit
        have hpk : picked L m sh (k + 1) = picked L m sh k := by
          show picked L m sh k ++ (if bit m (sh + k) then (L[k]?).toList else []) = _
          rw [hbit]
          simp
        generalize hP : picked L m sh k = Pk at *
        generalize hP1 : picked L m sh (k + 1) = Pk1 at *
        clear hbit hc hP
        go_wp2_with fail
        go_roundw
        case rel => exact ⟨k + 1, a, cp, by omega, by go_num, by rw [hP1, hpk], by rw [hP1, hpk]; exact hO, hB⟩
        case measure => simp [intOf]; omega
    · obtain rfl : k = L.length := by omega
      generalize picked L m sh L.length = Pk at *
      clear hc
      go_wp2
      go_ret
      exact ⟨a, cp, rfl, hO, hB⟩

/-- Is the name picked? -/
def named (L : List ByteArray) (m : Int) (sh : Nat) (s : ByteArray) : Bool := (picked L m sh L.length).any fun x => decide (x = s)
theorem named_iff {L : List ByteArray} {m : Int} {sh : Nat} {s : ByteArray} : named L m sh s = true ↔ s ∈ picked L m sh L.length := by
  unfold named
  rw [List.any_eq_true]
  constructor
  · rintro ⟨x, hx, h⟩
    simp at h
    rw [← h]
    exact hx
  · intro h
    exact ⟨s, h, by simp⟩

theorem picked_mono (L : List ByteArray) (m : Int) (sh : Nat) {s : ByteArray} {k : Nat} (h : s ∈ picked L m sh k) : ∀ {k'}, k ≤ k' → s ∈ picked L m sh k' := by
  intro k' hk
  induction k' with
  | zero => obtain rfl : k = 0 := by omega
            exact h
  | succ k' ih =>
    by_cases e : k = k' + 1
    · rw [← e]; exact h
    · exact List.mem_append.2 (.inl (ih (by omega)))

set_option maxRecDepth 100000 in
set_option maxHeartbeats 1600000 in
theorem zzNamed (w : World) (b off c : Nat) (L : List ByteArray) (m : Int) (sh : Nat) (s : ByteArray) (hL : L.length ≤ 8) (hsh : sh ≤ 16) (h0 : 0 ≤ m) (h1 : m < 4294967296) (hc : ∀ j (h : j < L.length), w.cell? ⟨b, off + j, none⟩ = some (.string L[j])) :
    Calls Try.prog 25 #[.slice (some ⟨b, off, none⟩) L.length c, .int .u32 m, .int .u64 sh, .string s] w fun e w' => e = .returned (.bool (named L m sh s)) ∧ w' = w := by
  go_enter Try.func25, Try.ntmps25
  go_wp2_with fail
  go_loop [9] (fun i => ∃ k : Nat, k ≤ L.length ∧ i = .int .i64 k ∧ s ∉ picked L m sh k) (fun i => L.length - (intOf i).toNat)
  case atStart => exact ⟨0, Nat.zero_le _, rfl, by simp [picked]⟩
  case round =>
    obtain ⟨k, hk, rfl, hno⟩ := hrel
    by_cases hkl : k < L.length
    · have ck := hc k hkl
      have i1 : (0 : Int) ≤ (k : Int) := Int.natCast_nonneg _
      have i2 : (k : Int) < (L.length : Int) := by omega
      have hm0 : 0 ≤ m / 2 ^ (sh + k) := Int.ediv_nonneg h0 (Int.le_of_lt (Int.pow_pos (by decide)))
      have hm1 : m / 2 ^ (sh + k) < 4294967296 := Int.lt_of_le_of_lt (Int.ediv_le_self _ h0) h1
      have ha := and_one _ hm0 hm1
      have hpk : picked L m sh (k + 1) = picked L m sh k ++ (if bit m (sh + k) then [L[k]] else []) := by
        show picked L m sh k ++ (if bit m (sh + k) then (L[k]?).toList else []) = _
        rw [List.getElem?_eq_getElem hkl]
        rfl
      by_cases heq : L[k] = s
      · have tq : (L[k].toList == s.toList) = true := by rw [heq]; simp
        cases hbit : bit m (sh + k) with
        | true =>
          have hq : (m / 2 ^ (sh + k) % 2 == 1) = true := hbit
          have hin : s ∈ picked L m sh L.length := picked_mono L m sh (k := k + 1) (by rw [hpk, hbit]; simp [heq]) (by omega)
          have hd : Hid (named L m sh s = true) := named_iff.2 hin
          clear hbit hc hpk hin hno heq
          go_wp2
          go_ret
          exact ⟨by rw [hd.out]; rfl, rfl⟩
        | false =>
          have hq : (m / 2 ^ (sh + k) % 2 == 1) = false := hbit
          have hno' : s ∉ picked L m sh (k + 1) := by rw [hpk, hbit]; simpa using hno
          clear hbit hc hpk hno heq
          go_wp2_with fail
          go_round
          case rel => exact ⟨k + 1, by omega, by go_num, hno'⟩
          case measure => simp [intOf]; omega
      · have tq := str_ne heq
        have hno' : s ∉ picked L m sh (k + 1) := by
          rw [hpk]
          intro hm
          rcases List.mem_append.1 hm with hm | hm
          · exact hno hm
          · split at hm
            · simp at hm; exact heq hm.symm
            · simp at hm
        clear hc hpk hno heq
        go_wp2_with fail
        go_round
        case rel => exact ⟨k + 1, by omega, by go_num, hno'⟩
        case measure => simp [intOf]; omega
    · obtain rfl : k = L.length := by omega
      have hd : Hid (named L m sh s = false) := by
        show named L m sh s = false
        cases e : named L m sh s
        · rfl
        · exact absurd (named_iff.1 e) hno
      clear hc hno
      go_wp2
      go_ret
      exact ⟨by rw [hd.out]; rfl, rfl⟩
end Go.Proofs.Qxb6003797a
