import Derived.Test.Qxb6003797aNodeInv
import Derived.Deep.Cut
namespace Go.Proofs.Qxb6003797a
open Go.RowKit

def SELF : ByteArray := ⟨#[115, 101, 108, 102]⟩
def NIL : Value := .slice none 0 0
/-- A record that names its origin, its start and its version alone, and what it hears. -/
def REC (o : ByteArray) (i v : Int) (hears : Value) : Value := .agg #[.string o, .int .u64 i, .int .u64 v, hears, .slice none 0 0, .slice none 0 0, .slice none 0 0, .slice none 0 0, .slice none 0 0, .slice none 0 0, .slice none 0 0, .slice none 0 0, .slice none 0 0, .slice none 0 0, .slice none 0 0, .bool false]
def noF : ByteArray → Option Value := fun _ => none
def F00 : NF := ⟨noF, noF, noF, noF, noF, noF, noF, noF, noF, noF⟩
/-- The maps of a fresh node. -/
def F0 : NF := { F00 with re := putF noF SELF (REC SELF 1 1 NIL), pe := putF noF SELF (.bool true) }

theorem MapF.of_empty {P : Program} {k : TypeId} {w : World} {b : Nat} (h : w.heap[b]? = some (.map #[] 0)) : MapF P k w b 0 noF := by
  have e := MapF.made w P k
  obtain ⟨D, ⟨es, clock, h1, h2, h3, h4⟩, h5⟩ := e
  have : (w.alloc (.map #[] 0)).heap[w.heap.size]? = some (.map #[] 0) := heap_alloc_new w _
  rw [this] at h1
  cases h1
  exact ⟨D, ⟨_, _, h, h2, h3, h4⟩, h5⟩

theorem ni_start {W : World} {B : Nat} (hb : ∃ cs, W.heap[B + 16]? = some (.cells cs 94 (0, 0)) ∧ NC B cs) (h1 : W.heap[B + 1]? = some (.map #[] 0)) (h2 : W.heap[B + 2]? = some (.map #[] 0)) (h3 : W.heap[B + 3]? = some (.map #[] 0)) (h4 : W.heap[B + 4]? = some (.map #[] 0))
    (h5 : W.heap[B + 5]? = some (.map #[] 0)) (h6 : W.heap[B + 6]? = some (.map #[] 0)) (h8 : W.heap[B + 8]? = some (.map #[] 0)) (h9 : W.heap[B + 9]? = some (.map #[] 0)) (h12 : W.heap[B + 12]? = some (.map #[] 0)) (h15 : W.heap[B + 15]? = some (.map #[] 0)) : NI W B 0 F00 :=
  ⟨hb, .of_empty h1, .of_empty h2, .of_empty h3, .of_empty h4, .of_empty h5, .of_empty h6, .of_empty h8, .of_empty h9, .of_empty h12, .of_empty h15⟩

theorem heap_push (w : World) (o : Obj) : (w.alloc o).heap = w.heap.push o := rfl

/-- The cells of a fresh node's box, h the heap's size ahead of the call. -/
def NCELLS (h : Nat) : Array Value := #[.string SELF, .map (some (h + 2)), .map (some (h + 3)), .map (some (h + 4)), .map (some (h + 5)), .map (some (h + 6)), .map (some (h + 7)), .map (some (h + 11)), .int .u64 0, .map (some (h + 8)), .map (some (h + 9)), .map (some (h + 10)), .int .u64 0, .bool false, .bool false, .bool false, .map none, .int .i64 0, .int .i64 0, .int .u64 0, .bool false, .int .u64 0, .int .u64 0, .int .u64 0, .int .u64 0, .int .i64 0, .int .i64 0, .bool false, .int .i64 0, .int .i64 0, .int .i64 0, .string ⟨#[]⟩, .int .u64 0, .int .u64 0, .slice none 0 0, .slice none 0 0, .slice none 0 0, .slice none 0 0, .slice none 0 0, .slice none 0 0, .slice none 0 0, .slice none 0 0, .slice none 0 0, .slice none 0 0, .slice none 0 0, .slice none 0 0, .bool false, .bool false, .bool false, .map (some (h + 12)), .map (some (h + 13)), .map (some (h + 14)), .map (some (h + 15)), .bool false, .int .i64 1, .int .i64 3, .int .i64 0, .map (some (h + 1)), .int .u64 1, .int .u64 1, .int .u64 0, .bool false, .slice none 0 0, .bool true, .map (some (h + 16)), .int .i64 0]

theorem wpList_build94 {P : Program} {w : World} {ops : Array Oper} {rest : List Oper} {o : Oper} {a : Act} {Q : Exit → Act → World → Prop} {xs : Array (Nat × Operand)} (hgd : o.guard = none) (hop : o.op = Op.build 94 xs) (v : Value)
    (hrun : (Instr.build 94 (xs.map fun (i, x) => (i, a.eval x))).run P w = .ok v w) (h : wpList P ops Q rest (a.put o.dst v) w) : wpList P ops Q (o :: rest) a w := by
  refine wpList_plain hgd fun K hK => ?_
  unfold Oper.wp
  simp only [execOp, hop]
  simp only [Sem.run_bind, hrun, Result.andThen_ok, Sem.run_pure, Oper.upon]
  exact hK _ _ h

theorem nc_start (h : Nat) : NC (h + 1) (NCELLS h) := ⟨rfl, rfl, rfl, rfl, rfl, rfl, rfl, rfl, rfl, rfl, rfl, rfl, rfl⟩
theorem nc3 (h : Nat) : (NCELLS h)[3]? = some (.map (some (h + 4))) := rfl

/-- The world behind the blocks of a fresh node. -/
def W17 (w : World) (o : Obj) : World := (((((((((((((((((w.alloc o).alloc (.map #[] 0)).alloc (.map #[] 0)).alloc (.map #[] 0)).alloc (.map #[] 0)).alloc (.map #[] 0)).alloc (.map #[] 0)).alloc (.map #[] 0)).alloc (.map #[] 0)).alloc (.map #[] 0)).alloc (.map #[] 0)).alloc (.map #[] 0)).alloc (.map #[] 0)).alloc (.map #[] 0)).alloc (.map #[] 0)).alloc (.map #[] 0)).alloc (.map #[] 0)).alloc (.cells (NCELLS w.heap.size) 94)

theorem foldl_alloc_size (w : World) : ∀ os : List Obj, (os.foldl World.alloc w).heap.size = w.heap.size + os.length
  | [] => rfl
  | o :: os => by
    rw [List.foldl_cons, foldl_alloc_size (w.alloc o) os]
    simp
    omega
theorem foldl_alloc_at (w : World) : ∀ (os : List Obj) (j : Nat), (os.foldl World.alloc w).heap[w.heap.size + j]? = os[j]?
  | [], j => by simp
  | o :: os, 0 => by
    rw [List.foldl_cons]
    have : ∀ (w : World) (os : List Obj) (k : Nat), k < w.heap.size → (os.foldl World.alloc w).heap[k]? = w.heap[k]? := by
      intro w os
      induction os generalizing w with
      | nil => intro k _; rfl
      | cons o os ih => intro k hk; rw [List.foldl_cons, ih (w.alloc o) k (by simp; omega), heap_alloc_old w o hk]
    rw [this _ _ _ (by simp)]
    exact heap_alloc_new w o
  | o :: os, j + 1 => by
    have := foldl_alloc_at (w.alloc o) os j
    rw [World.size_alloc] at this
    rw [List.foldl_cons, show w.heap.size + (j + 1) = w.heap.size + 1 + j by omega, this]
    rfl

def OS17 (w : World) (o : Obj) : List Obj := [o, .map #[] 0, .map #[] 0, .map #[] 0, .map #[] 0, .map #[] 0, .map #[] 0, .map #[] 0, .map #[] 0, .map #[] 0, .map #[] 0, .map #[] 0, .map #[] 0, .map #[] 0, .map #[] 0, .map #[] 0, .map #[] 0, .cells (NCELLS w.heap.size) 94]
theorem w17_eq (w : World) (o : Obj) : W17 w o = (OS17 w o).foldl World.alloc w := rfl

theorem w17_at (w : World) (o : Obj) (j : Nat) : (W17 w o).heap[w.heap.size + j]? = (OS17 w o)[j]? := by rw [w17_eq]; exact foldl_alloc_at w _ j

theorem w17_ni (w : World) (o : Obj) : NI (W17 w o) (w.heap.size + 1) 0 F00 :=
  ni_start ⟨NCELLS w.heap.size, w17_at w o 17, nc_start _⟩ (w17_at w o 2) (w17_at w o 3) (w17_at w o 4) (w17_at w o 5) (w17_at w o 6) (w17_at w o 7) (w17_at w o 9) (w17_at w o 10) (w17_at w o 13) (w17_at w o 16)

theorem w17_below (w : World) (o : Obj) : Below w.heap.size w (W17 w o) := by
  have : ∀ (os : List Obj) (w' : World), Below w.heap.size w w' → Below w.heap.size w (os.foldl World.alloc w') := by
    intro os
    induction os with
    | nil => exact fun _ h => h
    | cons o os ih => intro w' h; exact ih _ (h.alloc h.size o)
  rw [w17_eq]
  exact this _ _ (Below.refl _ _)

set_option maxRecDepth 100000 in
set_option maxHeartbeats 1600000 in
theorem newNode (w : World) :
    Calls Try.prog 39 #[.string SELF, .int .u64 1, .agg #[.int .i64 1, .int .i64 0]] w fun e w' => e = .returned (.pointer (some ⟨w.heap.size + 17, 0, none⟩)) ∧ NI w' (w.heap.size + 1) 2 F0 ∧ Below w.heap.size w w' := by
  have hmm := @run_makeMap Try.prog
  have h0 := w17_ni w (.cells #[.int .i64 1, .int .i64 0] 74)
  have hb0 := w17_below w (.cells #[.int .i64 1, .int .i64 0] 74)
  go_enter Try.func39, Try.ntmps39
  go_upto_region 7 with (refine wpList_build94 rfl rfl (.agg (NCELLS w.heap.size)) (by kernel_rfl) ?_)
  change Code.wp _ _ _ _ (W17 w (.cells #[.int .i64 1, .int .i64 0] 74))
  generalize W17 w (.cells #[.int .i64 1, .int .i64 0] 74) = W at h0 hb0 ⊢
  have c3 : W.cell? ⟨w.heap.size + 1 + 1 + 1 + 1 + 1 + 1 + 1 + 1 + 1 + 1 + 1 + 1 + 1 + 1 + 1 + 1 + 1, 3, none⟩ = some (.map (some (w.heap.size + 4))) := h0.c_re
  go_wp2_with (first
    | (at_mapUpdate; refine wpList_put _ rfl (.tmp 47) (.tmp 48) (.tmp 51) 86 rfl 9 83 Try.underlying9 Try.underlying86 (w.heap.size + 4) 0 noF rfl h0.re (by unfold maxLen; omega) SELF rfl (by decide) (REC SELF 1 1 NIL) rfl ?_; intro w1 hm1 hg1; have h1 := h0.w_re hm1 hg1 (by omega); have c4 : w1.cell? ⟨w.heap.size + 1 + 1 + 1 + 1 + 1 + 1 + 1 + 1 + 1 + 1 + 1 + 1 + 1 + 1 + 1 + 1 + 1, 4, none⟩ = some (.map (some (w.heap.size + 5))) := h1.c_pe)
    | (at_mapUpdate; refine wpList_put _ rfl (.tmp 55) (.tmp 56) _ 87 rfl 9 4 Try.underlying9 Try.underlying87 (w.heap.size + 5) 1 noF rfl h1.pe (by unfold maxLen; omega) SELF rfl (by decide) (.bool true) rfl ?_; intro w2 hm2 hg2; have h2 := h1.w_pe hm2 hg2 (by omega); obtain ⟨u48, c48⟩ : ∃ u, w2.cell? ⟨w.heap.size + 1 + 1 + 1 + 1 + 1 + 1 + 1 + 1 + 1 + 1 + 1 + 1 + 1 + 1 + 1 + 1 + 1, 48, none⟩ = some u := h2.there 48 (by omega); have f48 : w2.frozen? ⟨w.heap.size + 1 + 1 + 1 + 1 + 1 + 1 + 1 + 1 + 1 + 1 + 1 + 1 + 1 + 1 + 1 + 1 + 1, 48, none⟩ = false := h2.fz 48))
  go_ret
  have hs0 := hb0.size
  have hs1 := hg1.size
  have hs2 := hg2.size
  exact ⟨rfl, h2.set 48 _ (by decide), (((hb0.grown hg1 hs0 (fun k hk => by cases hk; omega)).grown hg2 (by omega) (fun k hk => by cases hk; omega)).setCell (by show w.heap.size ≤ w.heap.size + 17; omega) _)⟩

set_option maxHeartbeats 400000 in
theorem zzNewNode (w : World) :
    Calls Try.prog 17 #[.string ⟨#[115, 101, 108, 102]⟩, .int .u64 1, .int .i64 1, .int .i64 0] w fun e w' => e = .returned (.pointer (some ⟨w.heap.size + 17, 0, none⟩)) ∧ NI w' (w.heap.size + 1) 2 F0 ∧ Below w.heap.size w w' := by
  go_enter Try.func17, Try.ntmps17
  go_wp2_with (go_at_call 39; refine (newNode _).mono ?_; rintro e w' ⟨rfl, hn, hb⟩)
  go_ret
  exact ⟨rfl, hn, hb⟩
end Go.Proofs.Qxb6003797a
