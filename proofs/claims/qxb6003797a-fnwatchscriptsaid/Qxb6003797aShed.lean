import Derived.Test.Qxb6003797aSS
import Derived.WalkSpells
import Derived.Deep.RegionWith
namespace Go.Proofs.Qxb6003797a
open Go.RowKit

/-- A record with near-only parts. -/
def RV (o : ByteArray) (i v : Int) (hears : Value) (a7 : Option Addr) (n7 c7 : Nat) (a9 : Option Addr) (n9 c9 : Nat) (a14 : Option Addr) (n14 c14 : Nat) : Array Value :=
  #[.string o, .int .u64 i, .int .u64 v, hears, .slice none 0 0, .slice none 0 0, .slice none 0 0, .slice a7 n7 c7, .slice none 0 0, .slice a9 n9 c9, .slice none 0 0, .slice none 0 0, .slice none 0 0, .slice none 0 0, .slice a14 n14 c14, .bool false]

theorem nq22 (w : World) (a : Option Addr) (n c : Nat) : (binOp .neq 22 (.slice a n c) (.slice none 0 0)).run Try.prog w = .ok (.bool (!a.isNone)) w := run_neq_slice_nil_any w 22 9 a n c 0 0 Try.underlying22
theorem nq81 (w : World) (a : Option Addr) (n c : Nat) : (binOp .neq 81 (.slice a n c) (.slice none 0 0)).run Try.prog w = .ok (.bool (!a.isNone)) w := run_neq_slice_nil_any w 81 107 a n c 0 0 Try.underlying81

set_option maxHeartbeats 800000 in
theorem near_any (o : ByteArray) (i v : Int) (hears : Value) (a7 : Option Addr) (n7 c7 : Nat) (a9 : Option Addr) (n9 c9 : Nat) (a14 : Option Addr) (n14 c14 : Nat) (w : World) :
    Calls Try.prog 48 #[.agg (RV o i v hears a7 n7 c7 a9 n9 c9 a14 n14 c14)] w fun e w' => e = .returned (.bool (!a7.isNone || !a9.isNone || !a14.isNone)) ∧ w' = w.alloc (.cells (RV o i v hears a7 n7 c7 a9 n9 c9 a14 n14 c14) 83) := by
  have q22 := nq22
  have q81 := nq81
  unfold RV
  cases a7 with
  | some x7 =>
    go_enter Try.func48, Try.ntmps48
    go_wp2
    go_ret
    exact ⟨rfl, rfl⟩
  | none =>
    cases a9 with
    | some x9 =>
      go_enter Try.func48, Try.ntmps48
      go_wp2
      go_ret
      exact ⟨rfl, rfl⟩
    | none =>
      go_enter Try.func48, Try.ntmps48
      go_wp2
      go_ret
      exact ⟨by simp, rfl⟩

set_option maxHeartbeats 1600000 in
theorem shed_any (o : ByteArray) (i v : Int) (aH : Option Addr) (nH cH : Nat) (a7 : Option Addr) (n7 c7 : Nat) (a9 : Option Addr) (n9 c9 : Nat) (a14 : Option Addr) (n14 c14 : Nat) (w : World) :
    Calls Try.prog 54 #[.agg (RV o i v (.slice aH nH cH) a7 n7 c7 a9 n9 c9 a14 n14 c14)] w fun e w' => e = .returned (REC o i v (.slice aH nH cH)) ∧ Below w.heap.size w w' := by
  unfold RV
  go_enter Try.func54, Try.ntmps54
  go_wp2
  refine bodyPost_ret (v := REC o i v (.slice aH nH cH)) (by simp [results, Try.results54, go_sem, REC]) rfl ⟨rfl, ?_⟩
  exact ((Below.refl _ _).alloc (Nat.le_refl _) _).alloc (by simp) _

end Go.Proofs.Qxb6003797a
