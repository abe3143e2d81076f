import Derived.Test.Qxb6003797aHold4
import Derived.BigQuiet
import Derived.Deep.QuietTactic
namespace Go.Proofs.Qxb6003797a
open Go.RowKit

/-- A neighbour that is awaited: since when, and whether inherited. -/
def hv (x : Int × Bool) : Value := .agg #[.int .i64 x.1, .int .u64 0, .int .u64 0, .bool x.2]
/-- A silence. -/
def sv (x : Int × Int) : Value := .agg #[.int .u64 x.1, .int .i64 x.2, .int .i64 x.2, .bool true]

/-- The node's neighbours are N, its silences S. -/
structure WS (F : NF) (N : ByteArray → Option (Int × Bool)) (S : ByteArray → Option (Int × Int)) : Prop where
  nb : F.nb = fun s => (N s).map hv
  si : F.si = fun s => (S s).map sv

theorem zeroH (w : World) : (zeroValue 96).run Try.prog w = .ok (.agg #[.int .i64 0, .int .u64 0, .int .u64 0, .bool false]) w := by kernel_rfl
theorem zero102 (w : World) : (zeroValue 102).run Try.prog w = .ok (.agg #[.int .u64 0, .int .i64 0, .int .i64 0, .bool false]) w := by kernel_rfl

set_option maxRecDepth 100000 in
set_option maxHeartbeats 800000 in
theorem zzSilent (w : World) (B n : Nat) (F : NF) (N : ByteArray → Option (Int × Bool)) (S : ByteArray → Option (Int × Int)) (h : NI w B n F) (hW : WS F N S) (s : ByteArray) (hs : s.size ≤ maxLen) :
    Calls Try.prog 29 #[.pointer (some ⟨B + 16, 0, none⟩), .string s] w fun e w' => e = .returned (.bool (S s).isSome) ∧ Below w.heap.size w w' := by
  have c := h.c_si
  have hm := h.si
  cases e1 : S s with
  | none =>
    have hv : Hid (F.si s = none) := by show F.si s = none; rw [hW.si]; simp [e1]
    clear e1 hW
    go_enter Try.func29, Try.ntmps29
    go_wp2_with (at_lookup; refine wpList_look_none _ rfl _ _ 85 rfl 9 102 Try.underlying9 Try.underlying85 _ (zero102 _) (B + 2) n F.si rfl hm s rfl hs hv.out ?_)
    go_ret
    exact ⟨rfl, (Below.refl _ _).alloc (Nat.le_refl _) _⟩
  | some x =>
    have hv : Hid (F.si s = some (.agg #[.int .u64 x.1, .int .i64 x.2, .int .i64 x.2, .bool true])) := by show F.si s = some (sv x); rw [hW.si]; simp [e1]
    clear e1 hW
    go_enter Try.func29, Try.ntmps29
    go_wp2_with (at_lookup; refine wpList_look_some _ rfl _ _ 85 rfl 9 102 Try.underlying9 Try.underlying85 _ (zero102 _) (B + 2) n F.si rfl hm s rfl hs _ hv.out ?_)
    go_ret
    exact ⟨rfl, (Below.refl _ _).alloc (Nat.le_refl _) _⟩

/-- What the law reads of a neighbour. -/
def nbT (x : Option (Int × Bool)) : Value := .tuple #[.int .i64 ((x.map Prod.fst).getD 0), .int .u64 0, .int .u64 0, .bool ((x.map Prod.snd).getD false), .bool x.isSome]

set_option maxRecDepth 100000 in
set_option maxHeartbeats 800000 in
theorem zzNeighbour (w : World) (B n : Nat) (F : NF) (N : ByteArray → Option (Int × Bool)) (S : ByteArray → Option (Int × Int)) (h : NI w B n F) (hW : WS F N S) (s : ByteArray) (hs : s.size ≤ maxLen) :
    Calls Try.prog 42 #[.pointer (some ⟨B + 16, 0, none⟩), .string s] w fun e w' => e = .returned (nbT (N s)) ∧ Below w.heap.size w w' := by
  have c := h.c_nb
  have hm := h.nb
  cases e1 : N s with
  | none =>
    have hv : Hid (F.nb s = none) := by show F.nb s = none; rw [hW.nb]; simp [e1]
    clear e1 hW
    go_enter Try.func42, Try.ntmps42
    go_wp2_with (at_lookup; refine wpList_look_none _ rfl _ _ 84 rfl 9 96 Try.underlying9 Try.underlying84 _ (zeroH _) (B + 1) n F.nb rfl hm s rfl hs hv.out ?_)
    go_quiet (fail)
    go_wp2
    exact bodyPost_ret (v := nbT none) (by simp [results, Try.results42, go_sem, nbT]) rfl ⟨rfl, ((Below.refl _ _).alloc (Nat.le_refl _) _).trans (Sm.below (Sm.drewN _ _) _)⟩
  | some x =>
    have hv : Hid (F.nb s = some (.agg #[.int .i64 x.1, .int .u64 0, .int .u64 0, .bool x.2])) := by show F.nb s = some (hv x); rw [hW.nb]; simp [e1]
    clear e1 hW
    go_enter Try.func42, Try.ntmps42
    go_wp2_with (at_lookup; refine wpList_look_some _ rfl _ _ 84 rfl 9 96 Try.underlying9 Try.underlying84 _ (zeroH _) (B + 1) n F.nb rfl hm s rfl hs _ hv.out ?_)
    go_quiet (fail)
    go_wp2
    exact bodyPost_ret (v := nbT (some x)) (by simp [results, Try.results42, go_sem, nbT]) rfl ⟨rfl, ((Below.refl _ _).alloc (Nat.le_refl _) _).trans (Sm.below (Sm.drewN _ _) _)⟩

/-- A snapshot's six cells. -/
def snapC (x : Option (Int × Bool)) (y : Bool) : Array Value := #[.int .i64 ((x.map Prod.fst).getD 0), .int .u64 0, .int .u64 0, .bool ((x.map Prod.snd).getD false), .bool x.isSome, .bool y]

set_option maxRecDepth 100000 in
set_option maxHeartbeats 800000 in
theorem zzSnap (w : World) (B n : Nat) (F : NF) (N : ByteArray → Option (Int × Bool)) (S : ByteArray → Option (Int × Int)) (h : NI w B n F) (hW : WS F N S) (s : ByteArray) (hs : s.size ≤ maxLen) :
    Calls Try.prog 22 #[.pointer (some ⟨B + 16, 0, none⟩), .string s] w fun e w' => e = .returned (.agg (snapC (N s) (S s).isSome)) ∧ Below w.heap.size w w' := by
  have H1 := fun w' (h' : NI w' B n F) => zzNeighbour w' B n F N S h' hW s hs
  have H2 := fun w' (h' : NI w' B n F) => zzSilent w' B n F N S h' hW s hs
  generalize N s = x at *
  generalize (S s).isSome = y at *
  clear hW
  go_enter Try.func22, Try.ntmps22
  go_wp2_with fail
  refine (H1 _ (h.alloc _)).mono ?_
  rintro e w1 ⟨rfl, f1⟩
  simp only [nbT]
  have hb1 : w1.heap[w.heap.size]? = some (.cells #[.int .i64 0, .int .u64 0, .int .u64 0, .bool false, .bool false, .bool false] 47 (0, 0)) := below_block f1 (heap_alloc_new _ _) (by simp)
  have h1 := (h.alloc _).keep (below_fr f1) (by simp)
  have fw1 : Below w.heap.size w w1 := ((Below.refl _ _).alloc (Nat.le_refl _) _).trans (f1.mono (by simp))
  have lt1 := lt_of_block hb1
  go_wp2_with fail
  refine (H2 _ h1).mono ?_
  rintro e w2 ⟨rfl, f2⟩
  have hb2 := below_block f2 hb1 lt1
  have fw2 := fw1.trans (f2.mono fw1.size)
  clear f1 f2 H1 H2 h1 hb1
  go_wp2_with (refine wpList_store_block rfl 47 (.tmp 4) (.tmp 27) rfl w.heap.size (snapC x y) _ 47 rfl rfl hb2 rfl (by kernel_rfl) (by simp [snapC, Value.oneCell']) ?_; intro w3 hb3 hg3)
  have fw3 := fw2.grown hg3 fw2.size (fun k hk => by cases hk; exact Nat.le_refl _)
  have k0 := cell_of_row w3 w.heap.size 0 _ _ _ hb3
  have k1 := cell_of_row w3 w.heap.size 1 _ _ _ hb3
  have k2 := cell_of_row w3 w.heap.size 2 _ _ _ hb3
  have k3 := cell_of_row w3 w.heap.size 3 _ _ _ hb3
  have k4 := cell_of_row w3 w.heap.size 4 _ _ _ hb3
  have k5 := cell_of_row w3 w.heap.size 5 _ _ _ hb3
  simp [snapC] at k0 k1 k2 k3 k4 k5
  refine bodyPost_ret (v := .agg (snapC x y)) (by simp [results, Try.results22, go_sem, snapC, k0, k1, k2, k3, k4, k5]) rfl ⟨rfl, fw3⟩
end Go.Proofs.Qxb6003797a
