import Derived.Test.Qxb6003797aCarry
namespace Go.Proofs.Qxb6003797a
open Go.RowKit

set_option maxRecDepth 100000 in
set_option maxHeartbeats 1600000 in
theorem zzCarryOn (w : World) (B n : Nat) (F : NF) (N : NBw) (S : SIw) (now : Int) (h : NI w B n F) (hW : WS F N S) (hre : F.re SELF = some (REC SELF 1 1 NIL)) (hn : n ≤ 40000)
    (a1 : Option Addr) (c1 : Nat) (L1 : List ByteArray) (a2 : Option Addr) (c2 : Nat) (L2 : List ByteArray) (a3 : Option Addr) (c3 : Nat) (L3 : List ByteArray) (s1 : SS w a1 c1 L1) (s2 : SS w a2 c2 L2) (s3 : SS w a3 c3 L3) (l1 : L1.length ≤ 8) (l2 : L2.length ≤ 8) (l3 : L3.length ≤ 8)
    (r3 : ∀ b off, a3 = some ⟨b, off, none⟩ → b < B ∨ B + 16 < b) (z1 : ∀ s ∈ L1, s.size ≤ maxLen) (z2 : ∀ s ∈ L2, s.size ≤ maxLen) (z3 : ∀ s ∈ L3, s.size ≤ maxLen) :
    Calls Try.prog 23 #[.pointer (some ⟨B + 16, 0, none⟩), .int .i64 now, .slice a1 L1.length c1, .slice a2 L2.length c2, .slice a3 L3.length c3] w (COPost w B n F N S now (L1 ++ L2) L3) := by
  have HC := carryOn w B n F N S now h hW hre hn a1 c1 L1 a2 c2 L2 a3 c3 L3 s1 s2 s3 l1 l2 l3 r3 z1 z2 z3
  unfold RK at HC
  go_enter Try.func23, Try.ntmps23
  go_wp2_with fail
  refine HC.mono ?_
  rintro e w' ⟨rfl, hp⟩
  go_wp2
  go_end0
  exact ⟨rfl, hp⟩
end Go.Proofs.Qxb6003797a
