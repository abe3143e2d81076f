import Derived.Test.Qxb6003809aRows
import Derived.WalkKit
import Derived.ProofKit
import Derived.OpenShut
import Derived.ShutString
namespace Go.Proofs.Qxb6003809a.fnHexDigitAcceptsExactlyHexDigits
open Go.ChangeShapes Go.WideShapes Go.ChangeAt Go.RowKit
open Go.ChangeMaps (open_string shut_string)
set_option linter.unusedVariables false      -- a walk need not use every 'w<i>' (that an integer argument fits its kind)

theorem own : ownKnob Try.prog.godebug = none := by kernel_rfl

/-! ### The walk -/
/-- The twenty-two characters, in the order in which the law lists them. -/
def digs : List Int := [48, 49, 50, 51, 52, 53, 54, 55, 56, 57, 97, 98, 99, 100, 101, 102, 65, 66, 67, 68, 69, 70]
def hv (a : Int) : Int := if 48 ≤ a ∧ a ≤ 57 then a - 48 else if 97 ≤ a ∧ a ≤ 102 then a - 87 else if 65 ≤ a ∧ a ≤ 70 then a - 55 else 0
def hok (a : Int) : Bool := decide (48 ≤ a ∧ a ≤ 57) || decide (97 ≤ a ∧ a ≤ 102) || decide (65 ≤ a ∧ a ≤ 70)

set_option maxHeartbeats 1600000 in
theorem hexDigit (a0 : Int) (h0 : 0 ≤ a0) (h1 : a0 < 256) (w : World) :
    Calls Try.prog 19 #[.int .u8 a0] w fun e w' => e = .returned (.tuple #[.int .i64 (hv a0), .bool (hok a0)]) ∧ w' = w := by
  by_cases c1 : 48 ≤ a0
  · by_cases c2 : a0 ≤ 57
    · go_enter Try.func19, Try.ntmps19
      go_wp2
      go_ret2
      refine ⟨?_, rfl⟩
      simp [hv, hok, c1, c2]
    · by_cases c3 : 97 ≤ a0
      · by_cases c4 : a0 ≤ 102
        · go_enter Try.func19, Try.ntmps19
          go_wp2
          go_ret2
          refine ⟨?_, rfl⟩
          simp [hv, hok, c1, c3, c4]
          omega
        · go_enter Try.func19, Try.ntmps19
          go_wp2
          go_ret2
          refine ⟨?_, rfl⟩
          simp [hv, hok]
          omega
      · by_cases c5 : 65 ≤ a0
        · by_cases c6 : a0 ≤ 70
          · go_enter Try.func19, Try.ntmps19
            go_wp2
            go_ret2
            refine ⟨?_, rfl⟩
            simp [hv, hok, c1, c5, c6]
            omega
          · go_enter Try.func19, Try.ntmps19
            go_wp2
            go_ret2
            refine ⟨?_, rfl⟩
            simp [hv, hok]
            omega
        · go_enter Try.func19, Try.ntmps19
          go_wp2
          go_ret2
          refine ⟨?_, rfl⟩
          simp [hv, hok]
          omega
  · go_enter Try.func19, Try.ntmps19
    go_wp2
    go_ret2
    refine ⟨?_, rfl⟩
    simp [hv, hok]
    omega

theorem zzHex (a0 : Int) (h0 : 0 ≤ a0) (h1 : a0 < 256) (w : World) :
    Calls Try.prog 10 #[.int .u8 a0] w fun e w' => e = .returned (.tuple #[.int .i64 (hv a0), .bool (hok a0)]) ∧ w' = w := by
  go_enter Try.func10, Try.ntmps10
  go_wp2_with (go_at_call 19; refine (hexDigit a0 h0 h1 _).mono ?_; rintro e w' ⟨rfl, rfl⟩)
  go_ret2
  exact ⟨rfl, rfl⟩

theorem none_hit (a : Int) (h : ∀ d ∈ digs, a ≠ d) : hv a = 0 ∧ hok a = false := by
  simp [digs] at h
  simp only [hv, hok]
  have e1 : ¬ (48 ≤ a ∧ a ≤ 57) := by omega
  have e2 : ¬ (97 ≤ a ∧ a ≤ 102) := by omega
  have e3 : ¬ (65 ≤ a ∧ a ≤ 70) := by omega
  simp [e1, e2, e3]

set_option maxHeartbeats 16000000 in
theorem walk (a0 : Int) (w0 : (Lit.int .u8 a0).wf = true) (w : World) :
    Calls Try.prog 4 #[.int .u8 a0] w fun e w' => e = .returned (.bool true) ∧ Grown w w' := by
  have hr : 0 ≤ a0 ∧ a0 < 256 := by
    simp only [Lit.wf, Bool.and_eq_true, decide_eq_true_eq] at w0
    have e1 : IntKind.min .u8 = 0 := by kernel_rfl
    have e2 : IntKind.max .u8 = 255 := by kernel_rfl
    omega
  obtain ⟨h0, h1⟩ := hr
  go_enter Try.func4, Try.ntmps4
  go_wp2_with fail
  go_loop [3, 4] (fun z i => ∃ k : Nat, k ≤ 22 ∧ i = .int .i64 k ∧ z = .int .i64 (-1) ∧ ∀ d ∈ digs.take k, a0 ≠ d) (fun _ i => 22 - (intOf i).toNat)
  case atStart => exact ⟨0, Nat.zero_le _, rfl, rfl, by simp⟩
  case round =>
    obtain ⟨k, hk, rfl, rfl, hno⟩ := hrel
    by_cases hkl : k < 22
    · have hidx : k = 0 ∨ k = 1 ∨ k = 2 ∨ k = 3 ∨ k = 4 ∨ k = 5 ∨ k = 6 ∨ k = 7 ∨ k = 8 ∨ k = 9 ∨ k = 10 ∨ k = 11 ∨ k = 12 ∨ k = 13 ∨ k = 14 ∨ k = 15 ∨ k = 16 ∨ k = 17 ∨ k = 18 ∨ k = 19 ∨ k = 20 ∨ k = 21 := by omega
      rcases hidx with rfl | rfl | rfl | rfl | rfl | rfl | rfl | rfl | rfl | rfl | rfl | rfl | rfl | rfl | rfl | rfl | rfl | rfl | rfl | rfl | rfl | rfl
      · by_cases h : a0 = 48
        · subst h
          have HC := zzHex 48 h0 h1 w
          rw [show hv 48 = 0 from rfl, show hok 48 = true from rfl] at HC
          clear hno
          go_wp2_with (go_at_call 10; refine HC.mono ?_; rintro e w' ⟨rfl, rfl⟩)
          go_ret
          exact ⟨rfl, Grown.refl _⟩
        · have hb : ((({ data := #[48, 49, 50, 51, 52, 53, 54, 55, 56, 57, 97, 98, 99, 100, 101, 102, 65, 66, 67, 68, 69, 70] } : ByteArray)[0].toNat : Int) == a0) = false := by
            rw [show (({ data := #[48, 49, 50, 51, 52, 53, 54, 55, 56, 57, 97, 98, 99, 100, 101, 102, 65, 66, 67, 68, 69, 70] } : ByteArray)[0].toNat : Int) = 48 from rfl]
            simpa using Ne.symm h
          go_wp2
          go_round
          case rel => exact ⟨1, by omega, rfl, rfl, by
            intro d hd
            rw [show digs.take 1 = digs.take 0 ++ [48] from rfl] at hd
            rcases List.mem_append.1 hd with hd | hd
            · exact hno d hd
            · obtain rfl : d = 48 := by simpa using hd
              exact h⟩
          case measure => simp [intOf]
      · by_cases h : a0 = 49
        · subst h
          have HC := zzHex 49 h0 h1 w
          rw [show hv 49 = 1 from rfl, show hok 49 = true from rfl] at HC
          clear hno
          go_wp2_with (go_at_call 10; refine HC.mono ?_; rintro e w' ⟨rfl, rfl⟩)
          go_ret
          exact ⟨rfl, Grown.refl _⟩
        · have hb : ((({ data := #[48, 49, 50, 51, 52, 53, 54, 55, 56, 57, 97, 98, 99, 100, 101, 102, 65, 66, 67, 68, 69, 70] } : ByteArray)[1].toNat : Int) == a0) = false := by
            rw [show (({ data := #[48, 49, 50, 51, 52, 53, 54, 55, 56, 57, 97, 98, 99, 100, 101, 102, 65, 66, 67, 68, 69, 70] } : ByteArray)[1].toNat : Int) = 49 from rfl]
            simpa using Ne.symm h
          go_wp2
          go_round
          case rel => exact ⟨2, by omega, rfl, rfl, by
            intro d hd
            rw [show digs.take 2 = digs.take 1 ++ [49] from rfl] at hd
            rcases List.mem_append.1 hd with hd | hd
            · exact hno d hd
            · obtain rfl : d = 49 := by simpa using hd
              exact h⟩
          case measure => simp [intOf]
      · by_cases h : a0 = 50
        · subst h
          have HC := zzHex 50 h0 h1 w
          rw [show hv 50 = 2 from rfl, show hok 50 = true from rfl] at HC
          clear hno
          go_wp2_with (go_at_call 10; refine HC.mono ?_; rintro e w' ⟨rfl, rfl⟩)
          go_ret
          exact ⟨rfl, Grown.refl _⟩
        · have hb : ((({ data := #[48, 49, 50, 51, 52, 53, 54, 55, 56, 57, 97, 98, 99, 100, 101, 102, 65, 66, 67, 68, 69, 70] } : ByteArray)[2].toNat : Int) == a0) = false := by
            rw [show (({ data := #[48, 49, 50, 51, 52, 53, 54, 55, 56, 57, 97, 98, 99, 100, 101, 102, 65, 66, 67, 68, 69, 70] } : ByteArray)[2].toNat : Int) = 50 from rfl]
            simpa using Ne.symm h
          go_wp2
          go_round
          case rel => exact ⟨3, by omega, rfl, rfl, by
            intro d hd
            rw [show digs.take 3 = digs.take 2 ++ [50] from rfl] at hd
            rcases List.mem_append.1 hd with hd | hd
            · exact hno d hd
            · obtain rfl : d = 50 := by simpa using hd
              exact h⟩
          case measure => simp [intOf]
      · by_cases h : a0 = 51
        · subst h
          have HC := zzHex 51 h0 h1 w
          rw [show hv 51 = 3 from rfl, show hok 51 = true from rfl] at HC
          clear hno
          go_wp2_with (go_at_call 10; refine HC.mono ?_; rintro e w' ⟨rfl, rfl⟩)
          go_ret
          exact ⟨rfl, Grown.refl _⟩
        · have hb : ((({ data := #[48, 49, 50, 51, 52, 53, 54, 55, 56, 57, 97, 98, 99, 100, 101, 102, 65, 66, 67, 68, 69, 70] } : ByteArray)[3].toNat : Int) == a0) = false := by
            rw [show (({ data := #[48, 49, 50, 51, 52, 53, 54, 55, 56, 57, 97, 98, 99, 100, 101, 102, 65, 66, 67, 68, 69, 70] } : ByteArray)[3].toNat : Int) = 51 from rfl]
            simpa using Ne.symm h
          go_wp2
          go_round
          case rel => exact ⟨4, by omega, rfl, rfl, by
            intro d hd
            rw [show digs.take 4 = digs.take 3 ++ [51] from rfl] at hd
            rcases List.mem_append.1 hd with hd | hd
            · exact hno d hd
            · obtain rfl : d = 51 := by simpa using hd
              exact h⟩
          case measure => simp [intOf]
      · by_cases h : a0 = 52
        · subst h
          have HC := zzHex 52 h0 h1 w
          rw [show hv 52 = 4 from rfl, show hok 52 = true from rfl] at HC
          clear hno
          go_wp2_with (go_at_call 10; refine HC.mono ?_; rintro e w' ⟨rfl, rfl⟩)
          go_ret
          exact ⟨rfl, Grown.refl _⟩
        · have hb : ((({ data := #[48, 49, 50, 51, 52, 53, 54, 55, 56, 57, 97, 98, 99, 100, 101, 102, 65, 66, 67, 68, 69, 70] } : ByteArray)[4].toNat : Int) == a0) = false := by
            rw [show (({ data := #[48, 49, 50, 51, 52, 53, 54, 55, 56, 57, 97, 98, 99, 100, 101, 102, 65, 66, 67, 68, 69, 70] } : ByteArray)[4].toNat : Int) = 52 from rfl]
            simpa using Ne.symm h
          go_wp2
          go_round
          case rel => exact ⟨5, by omega, rfl, rfl, by
            intro d hd
            rw [show digs.take 5 = digs.take 4 ++ [52] from rfl] at hd
            rcases List.mem_append.1 hd with hd | hd
            · exact hno d hd
            · obtain rfl : d = 52 := by simpa using hd
              exact h⟩
          case measure => simp [intOf]
      · by_cases h : a0 = 53
        · subst h
          have HC := zzHex 53 h0 h1 w
          rw [show hv 53 = 5 from rfl, show hok 53 = true from rfl] at HC
          clear hno
          go_wp2_with (go_at_call 10; refine HC.mono ?_; rintro e w' ⟨rfl, rfl⟩)
          go_ret
          exact ⟨rfl, Grown.refl _⟩
        · have hb : ((({ data := #[48, 49, 50, 51, 52, 53, 54, 55, 56, 57, 97, 98, 99, 100, 101, 102, 65, 66, 67, 68, 69, 70] } : ByteArray)[5].toNat : Int) == a0) = false := by
            rw [show (({ data := #[48, 49, 50, 51, 52, 53, 54, 55, 56, 57, 97, 98, 99, 100, 101, 102, 65, 66, 67, 68, 69, 70] } : ByteArray)[5].toNat : Int) = 53 from rfl]
            simpa using Ne.symm h
          go_wp2
          go_round
          case rel => exact ⟨6, by omega, rfl, rfl, by
            intro d hd
            rw [show digs.take 6 = digs.take 5 ++ [53] from rfl] at hd
            rcases List.mem_append.1 hd with hd | hd
            · exact hno d hd
            · obtain rfl : d = 53 := by simpa using hd
              exact h⟩
          case measure => simp [intOf]
      · by_cases h : a0 = 54
        · subst h
          have HC := zzHex 54 h0 h1 w
          rw [show hv 54 = 6 from rfl, show hok 54 = true from rfl] at HC
          clear hno
          go_wp2_with (go_at_call 10; refine HC.mono ?_; rintro e w' ⟨rfl, rfl⟩)
          go_ret
          exact ⟨rfl, Grown.refl _⟩
        · have hb : ((({ data := #[48, 49, 50, 51, 52, 53, 54, 55, 56, 57, 97, 98, 99, 100, 101, 102, 65, 66, 67, 68, 69, 70] } : ByteArray)[6].toNat : Int) == a0) = false := by
            rw [show (({ data := #[48, 49, 50, 51, 52, 53, 54, 55, 56, 57, 97, 98, 99, 100, 101, 102, 65, 66, 67, 68, 69, 70] } : ByteArray)[6].toNat : Int) = 54 from rfl]
            simpa using Ne.symm h
          go_wp2
          go_round
          case rel => exact ⟨7, by omega, rfl, rfl, by
            intro d hd
            rw [show digs.take 7 = digs.take 6 ++ [54] from rfl] at hd
            rcases List.mem_append.1 hd with hd | hd
            · exact hno d hd
            · obtain rfl : d = 54 := by simpa using hd
              exact h⟩
          case measure => simp [intOf]
      · by_cases h : a0 = 55
        · subst h
          have HC := zzHex 55 h0 h1 w
          rw [show hv 55 = 7 from rfl, show hok 55 = true from rfl] at HC
          clear hno
          go_wp2_with (go_at_call 10; refine HC.mono ?_; rintro e w' ⟨rfl, rfl⟩)
          go_ret
          exact ⟨rfl, Grown.refl _⟩
        · have hb : ((({ data := #[48, 49, 50, 51, 52, 53, 54, 55, 56, 57, 97, 98, 99, 100, 101, 102, 65, 66, 67, 68, 69, 70] } : ByteArray)[7].toNat : Int) == a0) = false := by
            rw [show (({ data := #[48, 49, 50, 51, 52, 53, 54, 55, 56, 57, 97, 98, 99, 100, 101, 102, 65, 66, 67, 68, 69, 70] } : ByteArray)[7].toNat : Int) = 55 from rfl]
            simpa using Ne.symm h
          go_wp2
          go_round
          case rel => exact ⟨8, by omega, rfl, rfl, by
            intro d hd
            rw [show digs.take 8 = digs.take 7 ++ [55] from rfl] at hd
            rcases List.mem_append.1 hd with hd | hd
            · exact hno d hd
            · obtain rfl : d = 55 := by simpa using hd
              exact h⟩
          case measure => simp [intOf]
      · by_cases h : a0 = 56
        · subst h
          have HC := zzHex 56 h0 h1 w
          rw [show hv 56 = 8 from rfl, show hok 56 = true from rfl] at HC
          clear hno
          go_wp2_with (go_at_call 10; refine HC.mono ?_; rintro e w' ⟨rfl, rfl⟩)
          go_ret
          exact ⟨rfl, Grown.refl _⟩
        · have hb : ((({ data := #[48, 49, 50, 51, 52, 53, 54, 55, 56, 57, 97, 98, 99, 100, 101, 102, 65, 66, 67, 68, 69, 70] } : ByteArray)[8].toNat : Int) == a0) = false := by
            rw [show (({ data := #[48, 49, 50, 51, 52, 53, 54, 55, 56, 57, 97, 98, 99, 100, 101, 102, 65, 66, 67, 68, 69, 70] } : ByteArray)[8].toNat : Int) = 56 from rfl]
            simpa using Ne.symm h
          go_wp2
          go_round
          case rel => exact ⟨9, by omega, rfl, rfl, by
            intro d hd
            rw [show digs.take 9 = digs.take 8 ++ [56] from rfl] at hd
            rcases List.mem_append.1 hd with hd | hd
            · exact hno d hd
            · obtain rfl : d = 56 := by simpa using hd
              exact h⟩
          case measure => simp [intOf]
      · by_cases h : a0 = 57
        · subst h
          have HC := zzHex 57 h0 h1 w
          rw [show hv 57 = 9 from rfl, show hok 57 = true from rfl] at HC
          clear hno
          go_wp2_with (go_at_call 10; refine HC.mono ?_; rintro e w' ⟨rfl, rfl⟩)
          go_ret
          exact ⟨rfl, Grown.refl _⟩
        · have hb : ((({ data := #[48, 49, 50, 51, 52, 53, 54, 55, 56, 57, 97, 98, 99, 100, 101, 102, 65, 66, 67, 68, 69, 70] } : ByteArray)[9].toNat : Int) == a0) = false := by
            rw [show (({ data := #[48, 49, 50, 51, 52, 53, 54, 55, 56, 57, 97, 98, 99, 100, 101, 102, 65, 66, 67, 68, 69, 70] } : ByteArray)[9].toNat : Int) = 57 from rfl]
            simpa using Ne.symm h
          go_wp2
          go_round
          case rel => exact ⟨10, by omega, rfl, rfl, by
            intro d hd
            rw [show digs.take 10 = digs.take 9 ++ [57] from rfl] at hd
            rcases List.mem_append.1 hd with hd | hd
            · exact hno d hd
            · obtain rfl : d = 57 := by simpa using hd
              exact h⟩
          case measure => simp [intOf]
      · by_cases h : a0 = 97
        · subst h
          have HC := zzHex 97 h0 h1 w
          rw [show hv 97 = 10 from rfl, show hok 97 = true from rfl] at HC
          clear hno
          go_wp2_with (go_at_call 10; refine HC.mono ?_; rintro e w' ⟨rfl, rfl⟩)
          go_ret
          exact ⟨rfl, Grown.refl _⟩
        · have hb : ((({ data := #[48, 49, 50, 51, 52, 53, 54, 55, 56, 57, 97, 98, 99, 100, 101, 102, 65, 66, 67, 68, 69, 70] } : ByteArray)[10].toNat : Int) == a0) = false := by
            rw [show (({ data := #[48, 49, 50, 51, 52, 53, 54, 55, 56, 57, 97, 98, 99, 100, 101, 102, 65, 66, 67, 68, 69, 70] } : ByteArray)[10].toNat : Int) = 97 from rfl]
            simpa using Ne.symm h
          go_wp2
          go_round
          case rel => exact ⟨11, by omega, rfl, rfl, by
            intro d hd
            rw [show digs.take 11 = digs.take 10 ++ [97] from rfl] at hd
            rcases List.mem_append.1 hd with hd | hd
            · exact hno d hd
            · obtain rfl : d = 97 := by simpa using hd
              exact h⟩
          case measure => simp [intOf]
      · by_cases h : a0 = 98
        · subst h
          have HC := zzHex 98 h0 h1 w
          rw [show hv 98 = 11 from rfl, show hok 98 = true from rfl] at HC
          clear hno
          go_wp2_with (go_at_call 10; refine HC.mono ?_; rintro e w' ⟨rfl, rfl⟩)
          go_ret
          exact ⟨rfl, Grown.refl _⟩
        · have hb : ((({ data := #[48, 49, 50, 51, 52, 53, 54, 55, 56, 57, 97, 98, 99, 100, 101, 102, 65, 66, 67, 68, 69, 70] } : ByteArray)[11].toNat : Int) == a0) = false := by
            rw [show (({ data := #[48, 49, 50, 51, 52, 53, 54, 55, 56, 57, 97, 98, 99, 100, 101, 102, 65, 66, 67, 68, 69, 70] } : ByteArray)[11].toNat : Int) = 98 from rfl]
            simpa using Ne.symm h
          go_wp2
          go_round
          case rel => exact ⟨12, by omega, rfl, rfl, by
            intro d hd
            rw [show digs.take 12 = digs.take 11 ++ [98] from rfl] at hd
            rcases List.mem_append.1 hd with hd | hd
            · exact hno d hd
            · obtain rfl : d = 98 := by simpa using hd
              exact h⟩
          case measure => simp [intOf]
      · by_cases h : a0 = 99
        · subst h
          have HC := zzHex 99 h0 h1 w
          rw [show hv 99 = 12 from rfl, show hok 99 = true from rfl] at HC
          clear hno
          go_wp2_with (go_at_call 10; refine HC.mono ?_; rintro e w' ⟨rfl, rfl⟩)
          go_ret
          exact ⟨rfl, Grown.refl _⟩
        · have hb : ((({ data := #[48, 49, 50, 51, 52, 53, 54, 55, 56, 57, 97, 98, 99, 100, 101, 102, 65, 66, 67, 68, 69, 70] } : ByteArray)[12].toNat : Int) == a0) = false := by
            rw [show (({ data := #[48, 49, 50, 51, 52, 53, 54, 55, 56, 57, 97, 98, 99, 100, 101, 102, 65, 66, 67, 68, 69, 70] } : ByteArray)[12].toNat : Int) = 99 from rfl]
            simpa using Ne.symm h
          go_wp2
          go_round
          case rel => exact ⟨13, by omega, rfl, rfl, by
            intro d hd
            rw [show digs.take 13 = digs.take 12 ++ [99] from rfl] at hd
            rcases List.mem_append.1 hd with hd | hd
            · exact hno d hd
            · obtain rfl : d = 99 := by simpa using hd
              exact h⟩
          case measure => simp [intOf]
      · by_cases h : a0 = 100
        · subst h
          have HC := zzHex 100 h0 h1 w
          rw [show hv 100 = 13 from rfl, show hok 100 = true from rfl] at HC
          clear hno
          go_wp2_with (go_at_call 10; refine HC.mono ?_; rintro e w' ⟨rfl, rfl⟩)
          go_ret
          exact ⟨rfl, Grown.refl _⟩
        · have hb : ((({ data := #[48, 49, 50, 51, 52, 53, 54, 55, 56, 57, 97, 98, 99, 100, 101, 102, 65, 66, 67, 68, 69, 70] } : ByteArray)[13].toNat : Int) == a0) = false := by
            rw [show (({ data := #[48, 49, 50, 51, 52, 53, 54, 55, 56, 57, 97, 98, 99, 100, 101, 102, 65, 66, 67, 68, 69, 70] } : ByteArray)[13].toNat : Int) = 100 from rfl]
            simpa using Ne.symm h
          go_wp2
          go_round
          case rel => exact ⟨14, by omega, rfl, rfl, by
            intro d hd
            rw [show digs.take 14 = digs.take 13 ++ [100] from rfl] at hd
            rcases List.mem_append.1 hd with hd | hd
            · exact hno d hd
            · obtain rfl : d = 100 := by simpa using hd
              exact h⟩
          case measure => simp [intOf]
      · by_cases h : a0 = 101
        · subst h
          have HC := zzHex 101 h0 h1 w
          rw [show hv 101 = 14 from rfl, show hok 101 = true from rfl] at HC
          clear hno
          go_wp2_with (go_at_call 10; refine HC.mono ?_; rintro e w' ⟨rfl, rfl⟩)
          go_ret
          exact ⟨rfl, Grown.refl _⟩
        · have hb : ((({ data := #[48, 49, 50, 51, 52, 53, 54, 55, 56, 57, 97, 98, 99, 100, 101, 102, 65, 66, 67, 68, 69, 70] } : ByteArray)[14].toNat : Int) == a0) = false := by
            rw [show (({ data := #[48, 49, 50, 51, 52, 53, 54, 55, 56, 57, 97, 98, 99, 100, 101, 102, 65, 66, 67, 68, 69, 70] } : ByteArray)[14].toNat : Int) = 101 from rfl]
            simpa using Ne.symm h
          go_wp2
          go_round
          case rel => exact ⟨15, by omega, rfl, rfl, by
            intro d hd
            rw [show digs.take 15 = digs.take 14 ++ [101] from rfl] at hd
            rcases List.mem_append.1 hd with hd | hd
            · exact hno d hd
            · obtain rfl : d = 101 := by simpa using hd
              exact h⟩
          case measure => simp [intOf]
      · by_cases h : a0 = 102
        · subst h
          have HC := zzHex 102 h0 h1 w
          rw [show hv 102 = 15 from rfl, show hok 102 = true from rfl] at HC
          clear hno
          go_wp2_with (go_at_call 10; refine HC.mono ?_; rintro e w' ⟨rfl, rfl⟩)
          go_ret
          exact ⟨rfl, Grown.refl _⟩
        · have hb : ((({ data := #[48, 49, 50, 51, 52, 53, 54, 55, 56, 57, 97, 98, 99, 100, 101, 102, 65, 66, 67, 68, 69, 70] } : ByteArray)[15].toNat : Int) == a0) = false := by
            rw [show (({ data := #[48, 49, 50, 51, 52, 53, 54, 55, 56, 57, 97, 98, 99, 100, 101, 102, 65, 66, 67, 68, 69, 70] } : ByteArray)[15].toNat : Int) = 102 from rfl]
            simpa using Ne.symm h
          go_wp2
          go_round
          case rel => exact ⟨16, by omega, rfl, rfl, by
            intro d hd
            rw [show digs.take 16 = digs.take 15 ++ [102] from rfl] at hd
            rcases List.mem_append.1 hd with hd | hd
            · exact hno d hd
            · obtain rfl : d = 102 := by simpa using hd
              exact h⟩
          case measure => simp [intOf]
      · by_cases h : a0 = 65
        · subst h
          have HC := zzHex 65 h0 h1 w
          rw [show hv 65 = 10 from rfl, show hok 65 = true from rfl] at HC
          clear hno
          go_wp2_with (go_at_call 10; refine HC.mono ?_; rintro e w' ⟨rfl, rfl⟩)
          go_ret
          exact ⟨rfl, Grown.refl _⟩
        · have hb : ((({ data := #[48, 49, 50, 51, 52, 53, 54, 55, 56, 57, 97, 98, 99, 100, 101, 102, 65, 66, 67, 68, 69, 70] } : ByteArray)[16].toNat : Int) == a0) = false := by
            rw [show (({ data := #[48, 49, 50, 51, 52, 53, 54, 55, 56, 57, 97, 98, 99, 100, 101, 102, 65, 66, 67, 68, 69, 70] } : ByteArray)[16].toNat : Int) = 65 from rfl]
            simpa using Ne.symm h
          go_wp2
          go_round
          case rel => exact ⟨17, by omega, rfl, rfl, by
            intro d hd
            rw [show digs.take 17 = digs.take 16 ++ [65] from rfl] at hd
            rcases List.mem_append.1 hd with hd | hd
            · exact hno d hd
            · obtain rfl : d = 65 := by simpa using hd
              exact h⟩
          case measure => simp [intOf]
      · by_cases h : a0 = 66
        · subst h
          have HC := zzHex 66 h0 h1 w
          rw [show hv 66 = 11 from rfl, show hok 66 = true from rfl] at HC
          clear hno
          go_wp2_with (go_at_call 10; refine HC.mono ?_; rintro e w' ⟨rfl, rfl⟩)
          go_ret
          exact ⟨rfl, Grown.refl _⟩
        · have hb : ((({ data := #[48, 49, 50, 51, 52, 53, 54, 55, 56, 57, 97, 98, 99, 100, 101, 102, 65, 66, 67, 68, 69, 70] } : ByteArray)[17].toNat : Int) == a0) = false := by
            rw [show (({ data := #[48, 49, 50, 51, 52, 53, 54, 55, 56, 57, 97, 98, 99, 100, 101, 102, 65, 66, 67, 68, 69, 70] } : ByteArray)[17].toNat : Int) = 66 from rfl]
            simpa using Ne.symm h
          go_wp2
          go_round
          case rel => exact ⟨18, by omega, rfl, rfl, by
            intro d hd
            rw [show digs.take 18 = digs.take 17 ++ [66] from rfl] at hd
            rcases List.mem_append.1 hd with hd | hd
            · exact hno d hd
            · obtain rfl : d = 66 := by simpa using hd
              exact h⟩
          case measure => simp [intOf]
      · by_cases h : a0 = 67
        · subst h
          have HC := zzHex 67 h0 h1 w
          rw [show hv 67 = 12 from rfl, show hok 67 = true from rfl] at HC
          clear hno
          go_wp2_with (go_at_call 10; refine HC.mono ?_; rintro e w' ⟨rfl, rfl⟩)
          go_ret
          exact ⟨rfl, Grown.refl _⟩
        · have hb : ((({ data := #[48, 49, 50, 51, 52, 53, 54, 55, 56, 57, 97, 98, 99, 100, 101, 102, 65, 66, 67, 68, 69, 70] } : ByteArray)[18].toNat : Int) == a0) = false := by
            rw [show (({ data := #[48, 49, 50, 51, 52, 53, 54, 55, 56, 57, 97, 98, 99, 100, 101, 102, 65, 66, 67, 68, 69, 70] } : ByteArray)[18].toNat : Int) = 67 from rfl]
            simpa using Ne.symm h
          go_wp2
          go_round
          case rel => exact ⟨19, by omega, rfl, rfl, by
            intro d hd
            rw [show digs.take 19 = digs.take 18 ++ [67] from rfl] at hd
            rcases List.mem_append.1 hd with hd | hd
            · exact hno d hd
            · obtain rfl : d = 67 := by simpa using hd
              exact h⟩
          case measure => simp [intOf]
      · by_cases h : a0 = 68
        · subst h
          have HC := zzHex 68 h0 h1 w
          rw [show hv 68 = 13 from rfl, show hok 68 = true from rfl] at HC
          clear hno
          go_wp2_with (go_at_call 10; refine HC.mono ?_; rintro e w' ⟨rfl, rfl⟩)
          go_ret
          exact ⟨rfl, Grown.refl _⟩
        · have hb : ((({ data := #[48, 49, 50, 51, 52, 53, 54, 55, 56, 57, 97, 98, 99, 100, 101, 102, 65, 66, 67, 68, 69, 70] } : ByteArray)[19].toNat : Int) == a0) = false := by
            rw [show (({ data := #[48, 49, 50, 51, 52, 53, 54, 55, 56, 57, 97, 98, 99, 100, 101, 102, 65, 66, 67, 68, 69, 70] } : ByteArray)[19].toNat : Int) = 68 from rfl]
            simpa using Ne.symm h
          go_wp2
          go_round
          case rel => exact ⟨20, by omega, rfl, rfl, by
            intro d hd
            rw [show digs.take 20 = digs.take 19 ++ [68] from rfl] at hd
            rcases List.mem_append.1 hd with hd | hd
            · exact hno d hd
            · obtain rfl : d = 68 := by simpa using hd
              exact h⟩
          case measure => simp [intOf]
      · by_cases h : a0 = 69
        · subst h
          have HC := zzHex 69 h0 h1 w
          rw [show hv 69 = 14 from rfl, show hok 69 = true from rfl] at HC
          clear hno
          go_wp2_with (go_at_call 10; refine HC.mono ?_; rintro e w' ⟨rfl, rfl⟩)
          go_ret
          exact ⟨rfl, Grown.refl _⟩
        · have hb : ((({ data := #[48, 49, 50, 51, 52, 53, 54, 55, 56, 57, 97, 98, 99, 100, 101, 102, 65, 66, 67, 68, 69, 70] } : ByteArray)[20].toNat : Int) == a0) = false := by
            rw [show (({ data := #[48, 49, 50, 51, 52, 53, 54, 55, 56, 57, 97, 98, 99, 100, 101, 102, 65, 66, 67, 68, 69, 70] } : ByteArray)[20].toNat : Int) = 69 from rfl]
            simpa using Ne.symm h
          go_wp2
          go_round
          case rel => exact ⟨21, by omega, rfl, rfl, by
            intro d hd
            rw [show digs.take 21 = digs.take 20 ++ [69] from rfl] at hd
            rcases List.mem_append.1 hd with hd | hd
            · exact hno d hd
            · obtain rfl : d = 69 := by simpa using hd
              exact h⟩
          case measure => simp [intOf]
      · by_cases h : a0 = 70
        · subst h
          have HC := zzHex 70 h0 h1 w
          rw [show hv 70 = 15 from rfl, show hok 70 = true from rfl] at HC
          clear hno
          go_wp2_with (go_at_call 10; refine HC.mono ?_; rintro e w' ⟨rfl, rfl⟩)
          go_ret
          exact ⟨rfl, Grown.refl _⟩
        · have hb : ((({ data := #[48, 49, 50, 51, 52, 53, 54, 55, 56, 57, 97, 98, 99, 100, 101, 102, 65, 66, 67, 68, 69, 70] } : ByteArray)[21].toNat : Int) == a0) = false := by
            rw [show (({ data := #[48, 49, 50, 51, 52, 53, 54, 55, 56, 57, 97, 98, 99, 100, 101, 102, 65, 66, 67, 68, 69, 70] } : ByteArray)[21].toNat : Int) = 70 from rfl]
            simpa using Ne.symm h
          go_wp2
          go_round
          case rel => exact ⟨22, by omega, rfl, rfl, by
            intro d hd
            rw [show digs.take 22 = digs.take 21 ++ [70] from rfl] at hd
            rcases List.mem_append.1 hd with hd | hd
            · exact hno d hd
            · obtain rfl : d = 70 := by simpa using hd
              exact h⟩
          case measure => simp [intOf]
    · obtain rfl : k = 22 := by omega
      obtain ⟨v1, v2⟩ := none_hit a0 hno
      have HC := zzHex a0 h0 h1 w
      rw [v1, v2] at HC
      clear hno
      go_wp2_with (go_at_call 10; refine HC.mono ?_; rintro e w' ⟨rfl, rfl⟩)
      go_ret
      exact ⟨rfl, Grown.refl _⟩

/-! ### THE ROW's STEP: WRITTEN OUT: LEAVE IT -/
set_option maxRecDepth 100000 in
theorem lifted (os : Os) (started : os.Started) (H : Type) (enc : TypeId × Value → H) :
    ReturnsInHanded {} Try.checked os 4 .any (Rows.fnHexDigitAcceptsExactlyHexDigitsSpec.pre6 enc Try.prog Try.f4 Rows.fnHexDigitAcceptsExactlyHexDigitsRow.domain false) (Rows.fnHexDigitAcceptsExactlyHexDigitsSpec.post enc Try.prog Try.f4 false true false false) := by
  refine returnsInHanded_of_change (C := Try.checked) own started (by kernel_rfl) Try.func4
    (ChangeSpec.witness6 (enc := enc) (C := Try.checked) false ⟨#[], #[.int .u8 0], []⟩ 8 (by kernel_rfl) (by kernel_rfl) (by kernel_rfl) (by kernel_rfl)) ?_
  intro W base args ds gs before hval0 hW hcnd _
  have hval : ∀ (j : Nat) t v, Try.f4.params[j]? = some t → args[j]? = some v → Value.okWide Try.prog W .any base t v := hval0
  have hW' := hW
  obtain ⟨p, q, hA0, hV, rfl, hfz, hnd⟩ := hW
  have hA : DataW.TrodAll enc Try.prog W 0 (fun _ => true) true Try.f4.params.toList args.toList ds p := hA0
  rw [Try.params4] at hA hval
  obtain ⟨v0, vs0, d0, ds0, p0, q0, hargs, rfl, rfl, h0, r0⟩ := trodAll_cons hA
  obtain ⟨rfl, rfl, rfl⟩ := trodAll_nil r0
  obtain rfl : args = #[v0] := by cases args; simp_all
  obtain ⟨rfl, rfl⟩ := trodVars_none hV
  obtain ⟨a0, rfl, rfl, rfl, w0⟩ := open_int Try.underlying5 (hval 0 5 v0 rfl rfl) h0
  clear hA0 hval0
  simp only [List.append_nil] at hW'
  refine (walk a0 w0 W).mono fun e W' ⟨he, hg⟩ => ?_
  subst he
  exact ⟨_, rfl, post_of_same (pa := []) (pv := []) hW' (fun _ _ _ => (trodAll_cons_mk (shut_bool Try.underlying4 _) trodAll_mk0)) (fun sp _ => (trodAll_cons_mk (shut_int Try.underlying5 w0) trodAll_mk0)) (fun _ _ => rfl) rfl
    (hg.frame _) hg.2.1 (ok_one (by kernel_rfl) rfl (okWide_bool_mk Try.underlying4 _))⟩

theorem over : Rows.fnHexDigitAcceptsExactlyHexDigitsRow.holds Try.pinned (OpenSpec.ofChange Rows.fnHexDigitAcceptsExactlyHexDigitsSpec) :=
  OpenClaim.holds_of_wide 4 Try.f4 rfl rfl rfl rfl rfl rfl rfl ⟨rfl, rfl, rfl, rfl, rfl⟩ rfl rfl rfl rfl rfl (by kernel_rfl) Try.func4 (by kernel_rfl)
    (of_decide_eq_true (by kernel_rfl)) (by unfold Func.isWrapper; first | (rw [if_pos (by decide +kernel)]; kernel_rfl) | (rw [if_neg (by decide +kernel)]; exact ⟨rfl, rfl⟩))
    (fun os started H enc _ => lifted os started H enc)

/-- ████ THE STATEMENT ████ -/
theorem proved : Rows.FnHexDigitAcceptsExactlyHexDigitsSaid :=
  over
#print axioms proved
end Go.Proofs.Qxb6003809a.fnHexDigitAcceptsExactlyHexDigits
