import Derived.Test.Qxb6003797aNode
import Derived.BigQuiet
import Derived.Deep.QuietTactic
namespace Go.Proofs.Qxb6003797a
open Go.RowKit

theorem own_slice {w : World} {B e sz n : Nat} {v : Value} {xs : List Value} (h : w.ownsRow B e sz v n xs) : ∃ a c, v = .slice a n c := by
  rcases h.2 with ⟨rfl, rfl⟩ | ⟨g, cap, cur, rfl, _⟩
  · exact ⟨_, _, rfl⟩
  · exact ⟨_, _, rfl⟩

theorem node_put (w : World) (base G M n : Nat) (f : ByteArray → Option Value) (vI vB vH vW : Value) (d : Nat) (xI : List Value) (s : ByteArray)
    (h : GS w base G M n f vI vB vH vW d d d d xI) (hd : d ≤ 1000) (hn : n ≤ 1000) (hs : s.size ≤ maxLen) (hv : f s = none) :
    Calls Try.prog 38 #[.pointer (some ⟨G, 0, none⟩), .string s] w (NewPost w base G M n f vI vB vH vW d xI s) := by
  obtain ⟨aI, cI, rfl⟩ := own_slice h.i
  obtain ⟨aB, cB, rfl⟩ := own_slice h.b
  obtain ⟨aH, cH, rfl⟩ := own_slice h.h
  obtain ⟨aW, cW, rfl⟩ := own_slice h.s
  exact node_new w base G M n f aI aB aH aW cI cB cH cW d xI s h hd hn hs hv

set_option maxHeartbeats 400000 in
theorem node_old (w : World) (base G M n : Nat) (f : ByteArray → Option Value) (vI vB vH vW : Value) (d : Nat) (xI : List Value) (s : ByteArray) (k : Int)
    (h : GS w base G M n f vI vB vH vW d d d d xI) (hs : s.size ≤ maxLen) (hv : f s = some (.int .i64 k)) :
    Calls Try.prog 38 #[.pointer (some ⟨G, 0, none⟩), .string s] w fun e w' => e = .returned (.int .i64 k) ∧ w' = w := by
  have c0 := h.c0
  go_enter Try.func38, Try.ntmps38
  go_wp2_with (at_lookup; refine wpList_look_some _ rfl _ _ 65 rfl 9 3 Try.underlying9 Try.underlying65 _ (zero3 _) M n f rfl h.m s rfl hs _ hv ?_)
  go_ret
  exact ⟨rfl, rfl⟩

set_option maxHeartbeats 400000 in
theorem zznode_put (w : World) (base G M n : Nat) (f : ByteArray → Option Value) (vI vB vH vW : Value) (d : Nat) (xI : List Value) (s : ByteArray)
    (h : GS w base G M n f vI vB vH vW d d d d xI) (hd : d ≤ 1000) (hn : n ≤ 1000) (hs : s.size ≤ maxLen) (hv : f s = none) :
    Calls Try.prog 11 #[.pointer (some ⟨G, 0, none⟩), .string s] w (NewPost w base G M n f vI vB vH vW d xI s) := by
  have HN := node_put w base G M n f vI vB vH vW d xI s h hd hn hs hv
  clear hv
  go_enter Try.func11, Try.ntmps11
  go_wp2_with fail
  refine HN.mono ?_
  rintro e w' hp
  obtain ⟨rfl, hq⟩ := hp
  go_wp2
  go_ret
  exact ⟨rfl, hq⟩

set_option maxHeartbeats 400000 in
theorem zznode_old (w : World) (base G M n : Nat) (f : ByteArray → Option Value) (vI vB vH vW : Value) (d : Nat) (xI : List Value) (s : ByteArray) (k : Int)
    (h : GS w base G M n f vI vB vH vW d d d d xI) (hs : s.size ≤ maxLen) (hv : f s = some (.int .i64 k)) :
    Calls Try.prog 11 #[.pointer (some ⟨G, 0, none⟩), .string s] w fun e w' => e = .returned (.int .i64 k) ∧ w' = w := by
  have HN := node_old w base G M n f vI vB vH vW d xI s k h hs hv
  clear hv
  go_enter Try.func11, Try.ntmps11
  go_wp2_with fail
  refine HN.mono ?_
  rintro e w' ⟨rfl, rfl⟩
  go_wp2
  go_ret
  exact ⟨rfl, rfl⟩

set_option maxHeartbeats 400000 in
theorem newGraph (w : World) :
    Calls Try.prog 10 #[] w fun e w' => e = .returned (.pointer (some ⟨w.heap.size + 1, 0, none⟩)) ∧
      GS w' (w.heap.size + 2) (w.heap.size + 1) w.heap.size 0 (fun _ => none) (.slice none 0 0) (.slice none 0 0) (.slice none 0 0) (.slice none 0 0) 0 0 0 0 [] ∧ Below w.heap.size w w' := by
  have hmm := @run_makeMap Try.prog
  go_enter Try.func10, Try.ntmps10
  go_wp2
  go_ret
  refine ⟨rfl, ⟨?_, (MapF.made w Try.prog 9).alloc _, World.ownsRow_nil _ _ _ _, World.ownsRow_nil _ _ _ _, World.ownsRow_nil _ _ _ _, World.ownsRow_nil _ _ _ _, .inl rfl, by omega, by omega, by simp⟩, ((Below.refl _ _).alloc (Nat.le_refl _) _).alloc (by simp) _⟩
  have := heap_alloc_new (w.alloc (.map #[] 0)) (.cells #[.map (some w.heap.size), .slice none 0 0, .slice none 0 0, .slice none 0 0, .slice none 0 0] 69)
  rw [World.size_alloc] at this
  exact this

set_option maxHeartbeats 400000 in
theorem graphIds (w : World) (base G M n : Nat) (f : ByteArray → Option Value) (vI vB vH vW : Value) (d : Nat) (xI : List Value)
    (h : GS w base G M n f vI vB vH vW d d d d xI) : Calls Try.prog 12 #[.pointer (some ⟨G, 0, none⟩)] w fun e w' => e = .returned vI ∧ w' = w := by
  have c1 := h.c1
  clear h
  go_enter Try.func12, Try.ntmps12
  go_wp2
  go_ret
  exact ⟨rfl, rfl⟩

set_option maxHeartbeats 800000 in
theorem graphSizes (w : World) (base G M n : Nat) (f : ByteArray → Option Value) (vI vB vH vW : Value) (d : Nat) (xI : List Value)
    (h : GS w base G M n f vI vB vH vW d d d d xI) : Calls Try.prog 13 #[.pointer (some ⟨G, 0, none⟩)] w fun e w' => e = .returned (.tuple #[.int .i64 d, .int .i64 d, .int .i64 d]) ∧ ∃ k, w' = w.drewN k := by
  obtain ⟨aB, cB, rfl⟩ := own_slice h.b
  obtain ⟨aH, cH, rfl⟩ := own_slice h.h
  obtain ⟨aW, cW, rfl⟩ := own_slice h.s
  have c2 := h.c2
  have c3 := h.c3
  have c4 := h.c4
  clear h
  go_enter Try.func13, Try.ntmps13
  go_wp2_with fail
  go_quiet (fail)
  go_wp2
  go_ret3
  exact ⟨rfl, _, rfl⟩
end Go.Proofs.Qxb6003797a
