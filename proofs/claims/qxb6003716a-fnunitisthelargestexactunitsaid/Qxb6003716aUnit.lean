import Derived.Test.Qxb6003716aRows
import Derived.WalkKit
import Derived.WalkLawsBesides
import Derived.RowKit3
namespace Go.Proofs.Qxb6003716a.fnUnitIsTheLargestExactUnit
open Go.RowKit

set_option maxHeartbeats 800000 in
theorem unit_zero (w : World) :
    Calls Try.prog 18 #[.int .u32 0] w fun e w' => e = .returned (.tuple #[.int .u32 0, .string ⟨#[115]⟩, .string ⟨#[115, 101, 99, 111, 110, 100]⟩]) ∧ Grown w w' := by
  go_enter Try.func18, Try.ntmps18
  go_wp2
  refine wp_loop_rounds 4 ?_
  rw [rounds_succ]
  go_wp2
  rw [rounds_succ]
  go_wp2
  rw [rounds_succ]
  go_wp2
  rw [rounds_succ]
  go_wp2
  go_ret3
  exact ⟨rfl, by repeat (first | exact Grown.refl _ | apply Grown.drew | apply Grown.alloc)⟩

set_option maxHeartbeats 1600000 in
theorem unit_day (a : Int) (h0 : 0 < a) (h1 : a ≤ 4294967295) (hd : (a % 86400 == 0) = true) (w : World) :
    Calls Try.prog 18 #[.int .u32 a] w fun e w' => e = .returned (.tuple #[.int .u32 (a / 86400), .string ⟨#[100]⟩, .string ⟨#[100, 97, 121]⟩]) ∧ Grown w w' := by
  have hn : (a != 0) = true := by simp; omega
  go_enter Try.func18, Try.ntmps18
  go_wp2
  refine wp_loop_rounds 4 ?_
  rw [rounds_succ]
  go_wp2
  go_region
  all_goals go_wp2
  all_goals go_ret3
  all_goals exact ⟨rfl, by repeat (first | exact Grown.refl _ | apply Grown.drew | apply Grown.alloc)⟩

set_option maxHeartbeats 1600000 in
theorem unit_hour (a : Int) (h0 : 0 < a) (h1 : a ≤ 4294967295) (hd : (a % 86400 == 0) = false) (hh : (a % 3600 == 0) = true) (w : World) :
    Calls Try.prog 18 #[.int .u32 a] w fun e w' => e = .returned (.tuple #[.int .u32 (a / 3600), .string ⟨#[104]⟩, .string ⟨#[104, 111, 117, 114]⟩]) ∧ Grown w w' := by
  have hn : (a != 0) = true := by simp; omega
  go_enter Try.func18, Try.ntmps18
  go_wp2
  refine wp_loop_rounds 4 ?_
  rw [rounds_succ]
  go_wp2
  rw [rounds_succ]
  go_wp2
  go_region
  all_goals go_wp2
  all_goals go_ret3
  all_goals exact ⟨rfl, by repeat (first | exact Grown.refl _ | apply Grown.drew | apply Grown.alloc)⟩

set_option maxHeartbeats 1600000 in
theorem unit_minute (a : Int) (h0 : 0 < a) (h1 : a ≤ 4294967295) (hd : (a % 86400 == 0) = false) (hh : (a % 3600 == 0) = false) (hm : (a % 60 == 0) = true) (w : World) :
    Calls Try.prog 18 #[.int .u32 a] w fun e w' => e = .returned (.tuple #[.int .u32 (a / 60), .string ⟨#[109]⟩, .string ⟨#[109, 105, 110, 117, 116, 101]⟩]) ∧ Grown w w' := by
  have hn : (a != 0) = true := by simp; omega
  go_enter Try.func18, Try.ntmps18
  go_wp2
  refine wp_loop_rounds 4 ?_
  rw [rounds_succ]
  go_wp2
  rw [rounds_succ]
  go_wp2
  rw [rounds_succ]
  go_wp2
  go_region
  all_goals go_wp2
  all_goals go_ret3
  all_goals exact ⟨rfl, by repeat (first | exact Grown.refl _ | apply Grown.drew | apply Grown.alloc)⟩

set_option maxHeartbeats 1600000 in
theorem unit_none (a : Int) (h0 : 0 < a) (h1 : a ≤ 4294967295) (hd : (a % 86400 == 0) = false) (hh : (a % 3600 == 0) = false) (hm : (a % 60 == 0) = false) (w : World) :
    Calls Try.prog 18 #[.int .u32 a] w fun e w' => e = .returned (.tuple #[.int .u32 a, .string ⟨#[115]⟩, .string ⟨#[115, 101, 99, 111, 110, 100]⟩]) ∧ Grown w w' := by
  have hn : (a != 0) = true := by simp; omega
  go_enter Try.func18, Try.ntmps18
  go_wp2
  refine wp_loop_rounds 4 ?_
  rw [rounds_succ]
  go_wp2
  rw [rounds_succ]
  go_wp2
  rw [rounds_succ]
  go_wp2
  rw [rounds_succ]
  go_wp2
  go_ret3
  exact ⟨rfl, by repeat (first | exact Grown.refl _ | apply Grown.drew | apply Grown.alloc)⟩

set_option maxHeartbeats 400000 in
theorem zz_zero (w : World) :
    Calls Try.prog 13 #[.int .u32 0] w fun e w' => e = .returned (.tuple #[.int .u32 0, .string ⟨#[115]⟩, .string ⟨#[115, 101, 99, 111, 110, 100]⟩]) ∧ Grown w w' := by
  go_enter Try.func13, Try.ntmps13
  go_wp2_with (go_at_call 18; refine (unit_zero _).mono ?_; rintro e w' ⟨rfl, hg⟩)
  go_ret3
  exact ⟨rfl, hg⟩

set_option maxHeartbeats 400000 in
theorem zz_day (a : Int) (h0 : 0 < a) (h1 : a ≤ 4294967295) (hd : (a % 86400 == 0) = true) (w : World) :
    Calls Try.prog 13 #[.int .u32 a] w fun e w' => e = .returned (.tuple #[.int .u32 (a / 86400), .string ⟨#[100]⟩, .string ⟨#[100, 97, 121]⟩]) ∧ Grown w w' := by
  have HU := fun w => unit_day a h0 h1 hd w
  clear h0 h1 hd
  go_enter Try.func13, Try.ntmps13
  go_wp2_with (go_at_call 18; refine (HU _).mono ?_; rintro e w' ⟨rfl, hg⟩)
  go_ret3
  exact ⟨rfl, hg⟩

set_option maxHeartbeats 400000 in
theorem zz_hour (a : Int) (h0 : 0 < a) (h1 : a ≤ 4294967295) (hd : (a % 86400 == 0) = false) (hh : (a % 3600 == 0) = true) (w : World) :
    Calls Try.prog 13 #[.int .u32 a] w fun e w' => e = .returned (.tuple #[.int .u32 (a / 3600), .string ⟨#[104]⟩, .string ⟨#[104, 111, 117, 114]⟩]) ∧ Grown w w' := by
  have HU := fun w => unit_hour a h0 h1 hd hh w
  clear h0 h1 hd hh
  go_enter Try.func13, Try.ntmps13
  go_wp2_with (go_at_call 18; refine (HU _).mono ?_; rintro e w' ⟨rfl, hg⟩)
  go_ret3
  exact ⟨rfl, hg⟩

set_option maxHeartbeats 400000 in
theorem zz_minute (a : Int) (h0 : 0 < a) (h1 : a ≤ 4294967295) (hd : (a % 86400 == 0) = false) (hh : (a % 3600 == 0) = false) (hm : (a % 60 == 0) = true) (w : World) :
    Calls Try.prog 13 #[.int .u32 a] w fun e w' => e = .returned (.tuple #[.int .u32 (a / 60), .string ⟨#[109]⟩, .string ⟨#[109, 105, 110, 117, 116, 101]⟩]) ∧ Grown w w' := by
  have HU := fun w => unit_minute a h0 h1 hd hh hm w
  clear h0 h1 hd hh hm
  go_enter Try.func13, Try.ntmps13
  go_wp2_with (go_at_call 18; refine (HU _).mono ?_; rintro e w' ⟨rfl, hg⟩)
  go_ret3
  exact ⟨rfl, hg⟩

set_option maxHeartbeats 400000 in
theorem zz_none (a : Int) (h0 : 0 < a) (h1 : a ≤ 4294967295) (hd : (a % 86400 == 0) = false) (hh : (a % 3600 == 0) = false) (hm : (a % 60 == 0) = false) (w : World) :
    Calls Try.prog 13 #[.int .u32 a] w fun e w' => e = .returned (.tuple #[.int .u32 a, .string ⟨#[115]⟩, .string ⟨#[115, 101, 99, 111, 110, 100]⟩]) ∧ Grown w w' := by
  have HU := fun w => unit_none a h0 h1 hd hh hm w
  clear h0 h1 hd hh hm
  go_enter Try.func13, Try.ntmps13
  go_wp2_with (go_at_call 18; refine (HU _).mono ?_; rintro e w' ⟨rfl, hg⟩)
  go_ret3
  exact ⟨rfl, hg⟩
end Go.Proofs.Qxb6003716a.fnUnitIsTheLargestExactUnit
