import Derived.Test.Qxb6003809aRows
import Derived.WalkKit
import Derived.WalkLawsBesides
import Derived.RowKit3
import Derived.Below
import Derived.Lib.SliceRun
import Derived.Laws.CopyOwn
import Derived.Laws.Shifts
import Derived.Laws.BitsAllLaws
import Derived.Deep.AppendLies
import Derived.Deep.RegionLaw
namespace Go.Proofs.Qxb6003809a
open Go.RowKit

/-- Bytes as values. -/
def bv (L : List Int) : List Value := L.map (Value.int .u8)
theorem bv_len (L : List Int) : (bv L).length = L.length := by simp [bv]
theorem bv_app (L M : List Int) : bv (L ++ M) = bv L ++ bv M := by simp [bv]

theorem info5 : (Try.prog.info? 5).map (fun i => (i.zero, i.size, i.bytes)) = some (some (.int .u8 0), 1, 1) := by kernel_rfl
theorem size5 : (Try.prog.info? 5).map (·.size) = some 1 := by kernel_rfl

set_option maxHeartbeats 400000 in
theorem clone_nil (w : World) :
    Calls Try.prog 12 #[.slice none 0 0] w fun e w' => e = .returned (.slice none 0 0) ∧ w' = w := by
  have hq := fun w a n c => Lib.run_eql_slice_nil (P := Try.prog) w 27 5 a n c 0 0 Try.underlying27
  go_enter Try.func12, Try.ntmps12
  go_wp2
  go_ret
  exact ⟨rfl, rfl⟩

theorem own_block {w : World} {B e g n : Nat} {z : Value} (h : w.ownsRow B e 1 (.slice (some ⟨g, 0, none⟩) n n) n (madeCells #[z] (n * 1)).toList) :
    w.heap[g]? = some (.cells (List.replicate n z).toArray e (0, 0)) := by
  rcases h.2 with ⟨h', _⟩ | ⟨g', cap', cur, h', _, hg, _, _, hcs, htake⟩
  · simp at h'
  · simp only [Value.slice.injEq, Option.some.injEq, Addr.mk.injEq, and_true, true_and] at h'
    obtain ⟨rfl, rfl⟩ := h'
    rw [hg]
    have e1 : cur.toList = List.replicate n z := by
      have := htake
      rw [List.take_of_length_le (by simp; omega), Nat.mul_one, toList_madeCells_one] at this
      exact this
    rw [← e1]

set_option maxHeartbeats 400000 in
theorem clone_empty (a : Addr) (cap : Nat) (w : World) :
    Calls Try.prog 12 #[.slice (some a) 0 cap] w fun e w' => e = .returned (.slice (some ⟨w.heap.size, 0, none⟩) 0 0) ∧ w'.ownsRow w.heap.size 5 1 (.slice (some ⟨w.heap.size, 0, none⟩) 0 0) 0 [] ∧ Below w.heap.size w w' := by
  have hq := fun w a n c => Lib.run_eql_slice_nil (P := Try.prog) w 27 5 a n c 0 0 Try.underlying27
  have hcp := fun w dp sp dc sc => run_copy_none (P := Try.prog) w 27 27 3 5 dp sp 0 dc 0 sc Try.underlying27 size5 rfl
  obtain ⟨i0, hi, hz0, hz1, hz2⟩ := info_parts info5
  go_enter Try.func12, Try.ntmps12
  go_wp2_with (at_make; refine wpList_make_full _ rfl _ _ 27 rfl w.heap.size 5 i0 _ 1 Try.underlying27 hi hz0 hz1 _ _ _ _ 0 rfl rfl rfl rfl (by omega) (by unfold maxLen; omega) (Nat.le_refl _) ?_; intro w1 hown hgrow)
  go_ret
  exact ⟨rfl, by simpa [madeCells] using hown, (Below.refl _ _).grown hgrow (Nat.le_refl _) (by simp)⟩

theorem block_own {w : World} {B e g n : Nat} {xs : List Value} (hx : xs.length = n) (hn : n ≤ maxLen) (hB : B ≤ g) (h : w.heap[g]? = some (.cells xs.toArray e (0, 0))) :
    w.ownsRow B e 1 (.slice (some ⟨g, 0, none⟩) n n) n xs :=
  ⟨by simp [hx], .inr ⟨g, n, xs.toArray, rfl, hB, h, Nat.le_refl _, hn, by simp [hx], by rw [Nat.mul_one, List.take_of_length_le (by simp [hx])]⟩⟩

/-- 'copy' of a whole row of one-cell elements into a row that was just made. -/
theorem run_copy_whole {P : Program} {w w1 : World} {T E g b off cap : Nat} {z : Value} (hT : P.underlying T = some (.slice E)) (hs : (P.info? E).map (·.size) = some 1) (xs : List Value) (B : Nat) (hB : B ≤ g) (hn : xs.length ≤ maxLen)
    (hb1 : Below B w w1) (hblk : w1.heap[g]? = some (.cells (List.replicate xs.length z).toArray E (0, 0))) (hsrc : ∀ j v, xs[j]? = some v → w1.cell? ((⟨b, off, none⟩ : Addr).add j) = some v) (h1 : ∀ v ∈ xs, v.oneCell' = true) :
    ∃ w2, (Builtin.copy_ #[T, T] 3 #[.slice (some ⟨g, 0, none⟩) xs.length xs.length, .slice (some ⟨b, off, none⟩) xs.length cap]).run P w1 = .ok (.int .i64 xs.length) w2 ∧
      w2.ownsRow B E 1 (.slice (some ⟨g, 0, none⟩) xs.length xs.length) xs.length xs ∧ Below B w w2 := by
  have hrun := run_copy_row (P := P) w1 T T 3 E g 0 xs.length xs.length ⟨b, off, none⟩ xs.length cap _ E xs hT hs hblk (by simp) hsrc (by simp) h1
  refine ⟨_, hrun, ?_, below_setRow hb1 hB _⟩
  refine block_own rfl hn hB ?_
  rw [setRow_heap w1 g _ _ E _ hblk]
  simp

set_option maxHeartbeats 800000 in
theorem clone_some (b off cap : Nat) (L : List Int) (w : World) (hL : L.length ≤ 1048576) (hbw : b < w.heap.size)
    (hc : ∀ j (h : j < L.length), w.cell? ⟨b, off + j, none⟩ = some (.int .u8 L[j])) :
    Calls Try.prog 12 #[.slice (some ⟨b, off, none⟩) L.length cap] w fun e w' => e = .returned (.slice (some ⟨w.heap.size, 0, none⟩) L.length L.length) ∧
      w'.ownsRow w.heap.size 5 1 (.slice (some ⟨w.heap.size, 0, none⟩) L.length L.length) L.length (bv L) ∧ Below w.heap.size w w' := by
  have hq := fun w a n c => Lib.run_eql_slice_nil (P := Try.prog) w 27 5 a n c 0 0 Try.underlying27
  obtain ⟨i0, hi, hz0, hz1, hz2⟩ := info_parts info5
  have CP : ∀ w1, w1.ownsRow w.heap.size 5 1 (.slice (some ⟨w.heap.size, 0, none⟩) L.length L.length) L.length (madeCells (Value.int .u8 0).cells (L.length * 1)).toList → w.grownBy w1 none →
      ∃ w2, (Builtin.copy_ #[27, 27] 3 #[.slice (some ⟨w.heap.size, 0, none⟩) L.length L.length, .slice (some ⟨b, off, none⟩) L.length cap]).run Try.prog w1 = .ok (.int .i64 L.length) w2 ∧
        w2.ownsRow w.heap.size 5 1 (.slice (some ⟨w.heap.size, 0, none⟩) L.length L.length) L.length (bv L) ∧ Below w.heap.size w w2 := by
    intro w1 hown hgrow
    have hb1 : Below w.heap.size w w1 := (Below.refl _ _).grown hgrow (Nat.le_refl _) (by simp)
    have hblk := own_block hown
    have := run_copy_whole (P := Try.prog) (w := w) (w1 := w1) (T := 27) (E := 5) (g := w.heap.size) (b := b) (off := off) (cap := cap) (z := .int .u8 0) Try.underlying27 size5 (bv L) w.heap.size (Nat.le_refl _) (by simp [bv]; unfold maxLen; omega) hb1 (by simpa [bv] using hblk)
      (by
        intro j v hv
        rw [Go.WideShapes.add_plain, (hb1.cell (p := ⟨b, off + j, none⟩) hbw)]
        unfold bv at hv
        rw [List.getElem?_map] at hv
        obtain ⟨s, hs, rfl⟩ := Option.map_eq_some_iff.1 hv
        obtain ⟨hj, rfl⟩ := List.getElem?_eq_some_iff.1 hs
        exact hc j hj)
      (by intro v hv; obtain ⟨s, _, rfl⟩ := List.mem_map.1 hv; rfl)
    simpa only [bv_len] using this
  clear hc
  go_enter Try.func12, Try.ntmps12
  go_wp2_with (at_make; refine wpList_make_full _ rfl _ _ 27 rfl w.heap.size 5 i0 _ 1 Try.underlying27 hi hz0 hz1 _ _ _ _ L.length rfl rfl rfl rfl (by rw [hz2]; omega) (by unfold maxLen; omega) (Nat.le_refl _) ?_; intro w1 hown hgrow; obtain ⟨w2, hcp, hown2, hb2⟩ := CP w1 hown hgrow; clear CP)
  go_ret
  exact ⟨rfl, hown2, hb2⟩

/-- What comes in: an empty slice, or a row of bytes. -/
def BS (w : World) (a : Option Addr) (c : Nat) (L : List Int) : Prop :=
  (L = [] ∧ (a = none → c = 0)) ∨ ∃ b off, a = some ⟨b, off, none⟩ ∧ b < w.heap.size ∧ ∀ j (h : j < L.length), w.cell? ⟨b, off + j, none⟩ = some (.int .u8 L[j])

/-- What a clone leaves: a slice that owns its row. -/
def CP (w : World) (L : List Int) (e : Ending) (w' : World) : Prop :=
  ∃ a c, e = .returned (.slice a L.length c) ∧ w'.ownsRow w.heap.size 5 1 (.slice a L.length c) L.length (bv L) ∧ Below w.heap.size w w'

theorem clone_any (w : World) (a : Option Addr) (c : Nat) (L : List Int) (h : BS w a c L) (hL : L.length ≤ 1048576) :
    Calls Try.prog 12 #[.slice a L.length c] w (CP w L) := by
  rcases h with ⟨rfl, hn⟩ | ⟨b, off, rfl, hb, hc⟩
  · cases a with
    | none => rw [hn rfl]; exact (clone_nil w).mono fun e w' ⟨h, h'⟩ => ⟨none, 0, h, ⟨by simp [bv], .inl ⟨rfl, rfl⟩⟩, by subst h'; exact Below.refl _ _⟩
    | some a => exact (clone_empty a c w).mono fun e w' ⟨h, ho, hb⟩ => ⟨_, _, h, ho, hb⟩
  · exact (clone_some b off c L w hL hb hc).mono fun e w' ⟨h, ho, hb⟩ => ⟨_, _, h, ho, hb⟩

/-- The j-th of the m bytes of x, the highest first. -/
def bd (x : Int) (m j : Nat) : Int := x / 2 ^ (8 * (m - 1 - j)) % 256
def be (x : Int) (m : Nat) : List Int := (List.range m).map (bd x m)
theorem be_len (x : Int) (m : Nat) : (be x m).length = m := by simp [be]
theorem be_take (x : Int) (m k : Nat) (h : k < m) : (be x m).take (k + 1) = (be x m).take k ++ [bd x m k] := by
  rw [List.take_succ_eq_append_getElem (by rw [be_len]; exact h)]
  simp [be]

theorem lt_of_block {w : World} {b : Nat} {o : Obj} (h : w.heap[b]? = some o) : b < w.heap.size := (Array.getElem?_eq_some_iff.1 h).1

/-- What may have turned between w and w': the blocks in R, and new ones. -/
structure Fr (w w' : World) (R : List (Option Nat)) : Prop where
  os : w'.os = w.os
  tape : w'.tape = w.tape
  output : w'.output = w.output
  size : w.heap.size ≤ w'.heap.size
  block : ∀ k, k < w.heap.size → some k ∉ R → w'.heap[k]? = w.heap[k]?

theorem Fr.refl (w : World) (R : List (Option Nat)) : Fr w w R := ⟨rfl, rfl, rfl, Nat.le_refl _, fun _ _ _ => rfl⟩
theorem Fr.trans {w w1 w2 : World} {R R' : List (Option Nat)} (h : Fr w w1 R) (h' : Fr w1 w2 R') (hs : ∀ k, k < w.heap.size → some k ∈ R' → some k ∈ R) : Fr w w2 R :=
  ⟨h'.os.trans h.os, h'.tape.trans h.tape, h'.output.trans h.output, Nat.le_trans h.size h'.size, fun k hk hn => (h'.block k (Nat.lt_of_lt_of_le hk h.size) (fun hm => hn (hs k hk hm))).trans (h.block k hk hn)⟩
theorem Fr.of_grown {w w1 : World} {row : Option Nat} (h : w.grownBy w1 row) : Fr w w1 [row] :=
  ⟨h.os, h.tape, h.output, h.size, fun k hk hn => h.block k hk (fun e => hn (by simp [e]))⟩
theorem Fr.alloc (w : World) (o : Obj) : Fr w (w.alloc o) [] := ⟨rfl, rfl, rfl, by simp, fun k hk _ => Below.heap_alloc w o k hk⟩
theorem Fr.undrew {w w1 : World} {R : List (Option Nat)} (h : Fr w.drew w1 R) : Fr w w1 R := ⟨h.os, h.tape, h.output, h.size, h.block⟩
theorem Fr.below {w w1 : World} {R : List (Option Nat)} {B : Nat} (h : Fr w w1 R) (hB : B ≤ w.heap.size) (hR : ∀ k, some k ∈ R → B ≤ k) : Below B w w1 :=
  ⟨h.os, h.tape, h.output, h.size, fun k hk => h.block k (Nat.lt_of_lt_of_le hk hB) (fun hm => by have := hR k hm; omega)⟩
theorem Fr.own {w w1 : World} {R : List (Option Nat)} {B e sz n : Nat} {v : Value} {xs : List Value} (h : Fr w w1 R) (ho : w.ownsRow B e sz v n xs) (hne : v.ownBlock = none ∨ v.ownBlock ∉ R) : w1.ownsRow B e sz v n xs := by
  refine ⟨ho.1, ?_⟩
  rcases ho.2 with h2 | ⟨g, cap, cur, rfl, hb, hg, r⟩
  · exact .inl h2
  · rcases hne with hne | hne
    · simp [Value.ownBlock] at hne
    · exact .inr ⟨g, cap, cur, rfl, hb, by rw [h.block g (lt_of_block hg) hne]; exact hg, r⟩

/-- What an append of bytes leaves. -/
def AP (w : World) (B n : Nat) (xs : List Value) (M : List Int) (ob : Option Nat) (e : Ending) (w' : World) : Prop :=
  ∃ g cap, e = .returned (.slice (some ⟨g, 0, none⟩) (n + M.length) cap) ∧ w'.ownsRow B 5 1 (.slice (some ⟨g, 0, none⟩) (n + M.length) cap) (n + M.length) (xs ++ bv M) ∧ Fr w w' [ob]

theorem own_base {w : World} {B e g n c : Nat} {xs : List Value} (h : w.ownsRow B e 1 (.slice (some ⟨g, 0, none⟩) n c) n xs) : B ≤ g := by
  rcases h.2 with ⟨h', _⟩ | ⟨g', cap', cur, h', hb, _⟩
  · simp at h'
  · simp only [Value.slice.injEq, Option.some.injEq, Addr.mk.injEq, and_true, true_and] at h'
    obtain ⟨rfl, _⟩ := h'
    exact hb

set_option maxHeartbeats 1600000 in
theorem bigEndian (w : World) (B n g cap : Nat) (xs : List Value) (x : Int) (m : Nat) (hm : m ≤ 8) (hn : n ≤ 1000000) (ho : w.ownsRow B 5 1 (.slice (some ⟨g, 0, none⟩) n cap) n xs) (hB : B ≤ w.heap.size) :
    Calls Try.prog 22 #[.slice (some ⟨g, 0, none⟩) n cap, .int .u64 x, .int .i64 m] w (AP w B n xs (be x m) (some g)) := by
  obtain ⟨i5, hi5, z50, z51, z52⟩ := info_parts info5
  go_enter Try.func22, Try.ntmps22
  go_wp2_with fail
  go_loopw [0, 7] (fun v i wr => ∃ (k g' cap' : Nat), k ≤ m ∧ i = .int .i64 ((m : Int) - 1 - k) ∧ v = .slice (some ⟨g', 0, none⟩) (n + k) cap' ∧ wr.ownsRow B 5 1 (.slice (some ⟨g', 0, none⟩) (n + k) cap') (n + k) (xs ++ bv ((be x m).take k)) ∧ Fr w wr [some g] ∧ (g' = g ∨ w.heap.size ≤ g')) (fun _ i _ => (intOf i + 1).toNat)
  case atStart => exact ⟨0, g, cap, Nat.zero_le _, by simp, rfl, by simpa [bv] using ho, Fr.refl _ _, .inl rfl⟩
  case round =>
    obtain ⟨k, g', cap', hk, rfl, rfl, hoR, hbR, hgR⟩ := hrel
    by_cases hkm : k < m
    · obtain ⟨j, hj⟩ : ∃ j : Nat, j = m - 1 - k := ⟨_, rfl⟩
      have hji : (m : Int) - 1 - k = (j : Int) := by omega
      have hj7 : j ≤ 7 := by omega
      have hsz := hbR.size
      rw [hji]
      go_wp2_with (at_builtin; refine wpList_append_lies _ rfl (.tmp 14) (.tmp 20) 27 rfl B 5 i5 _ 1 1 Try.underlying27 hi5 z50 z51 z52 rfl (by decide) (.slice (some ⟨g', 0, none⟩) (n + k) cap') (n + k) _ rfl (hoR.alloc _) ⟨wr.heap.size, 0, none⟩ 1 1 [.int .u8 (bd x m k)] rfl rfl (cell_one_new _ _ _) (by simp [Value.oneCell']) (by decide) (by unfold maxLen; omega) (by omega) (by simp; omega) (wr.heap.size + 1) (by simp) ?_; intro gI capI w2 hoI hgI hlI hltI)
      go_roundw
      case rel => exact ⟨k + 1, gI, capI, by omega, by rw [show ((m - 1 - k : Nat) : Int) - 1 = (m : Int) - 1 - ((k + 1 : Nat) : Int) by omega], rfl, by
          rw [be_take x m k hkm, bv_app, ← List.append_assoc]
          exact hoI, (hbR.trans (Fr.alloc _ _) (by simp)).trans (Fr.of_grown hgI) (fun q hq hm => by
            simp [Value.ownBlock] at hm
            simp
            omega), by
          rcases hlI with hl | hl
          · simp [Value.ownBlock] at hl
            omega
          · right; omega⟩
      case measure => simp [intOf]; omega
    · obtain rfl : k = m := by omega
      rw [List.take_of_length_le (by rw [be_len]; exact Nat.le_refl _)] at hoR
      go_wp2
      go_ret
      exact ⟨g', cap', by rw [be_len]; rfl, by rw [be_len]; exact hoR, hbR⟩

theorem own_baseV {w : World} {B e n c : Nat} {a : Option Addr} {xs : List Value} (h : w.ownsRow B e 1 (.slice a n c) n xs) : ∀ k, (Value.slice a n c).ownBlock = some k → B ≤ k := by
  intro k hk
  rcases h.2 with ⟨h', _⟩ | ⟨g', cap', cur, h', hb, _⟩
  · rw [h'] at hk; cases hk
  · rw [h'] at hk; cases hk; exact hb

/-- The bytes that appendUint writes. -/
def enc (u : Int) : List Int := if u ≤ 127 then [u] else if u < 256 then 204 :: be u 1 else if u < 65536 then 205 :: be u 2 else if u < 4294967296 then 206 :: be u 4 else 207 :: be u 8

set_option maxHeartbeats 1600000 in
theorem uint_small (w : World) (B n c : Nat) (a : Option Addr) (xs : List Value) (u : Int) (hn : n ≤ 100000) (h0 : 0 ≤ u) (h1 : u ≤ 127) (ho : w.ownsRow B 5 1 (.slice a n c) n xs) (hB : B ≤ w.heap.size) :
    Calls Try.prog 21 #[.slice a n c, .int .u64 u] w (AP w B n xs [u] (Value.slice a n c).ownBlock) := by
  obtain ⟨i5, hi5, z50, z51, z52⟩ := info_parts info5
  have hu : u % 256 = u := by omega
  go_enter Try.func21, Try.ntmps21
  go_wp2_with (at_builtin; refine wpList_append_lies _ rfl (.tmp 8) (.tmp 11) 27 rfl B 5 i5 _ 1 1 Try.underlying27 hi5 z50 z51 z52 rfl (by decide) (.slice a n c) n _ rfl (ho.alloc _) ⟨w.heap.size, 0, none⟩ 1 1 [.int .u8 u] rfl rfl (by first | exact cell_one_new _ _ _ | (rw [hu]; exact cell_one_new _ _ _)) (by simp [Value.oneCell']) (by decide) (by unfold maxLen; omega) (by omega) (by simp; omega) (w.heap.size + 1) (by simp) ?_; intro gI capI w2 hoI hgI hlI hltI)
  go_ret
  exact ⟨gI, capI, rfl, hoI, ((Fr.refl w _).trans (Fr.alloc _ _) (by simp)).trans (Fr.of_grown hgI) (fun _ _ h => h)⟩


/-- A call of a Go function, by its contract, as one step of a region that draws. -/
theorem step_call {ops : Array Oper} {o : Oper} {a : Act} {w : World} {K : Act → World → Prop} {Q : Exit → Act → World → Prop} {E : Prop} (hgd : o.guard = none) (fn : Nat) (args : Array Value) {R : Ending → World → Prop} (hrun : ∀ w, (execOp a.eval o).run Try.prog w = .ok (.enter fn args) w)
    (hC : Calls Try.prog fn args w fun e w' => (∃ v, e = .returned v) ∧ R e w') (h : ∀ v w', R (.returned v) w' → K (a.put o.dst v) w') : if Region.wanted o (yielded ops a.tmps) = true then Oper.wp Try.prog o a w K Q else E := by
  have hw : Region.wanted o (yielded ops a.tmps) = true := by simp [Region.wanted, hgd]
  rw [if_pos hw]
  unfold Oper.wp
  rw [hrun]
  refine Calls.mono hC ?_
  rintro e w' ⟨⟨v, rfl⟩, hr⟩
  exact h v w' hr

theorem AP.ret {w w' : World} {B n : Nat} {xs : List Value} {M : List Int} {ob : Option Nat} {e : Ending} (h : AP w B n xs M ob e w') : (∃ v, e = .returned v) ∧ AP w B n xs M ob e w' := ⟨let ⟨_, _, h, _⟩ := h; ⟨_, h⟩, h⟩

set_option maxHeartbeats 3200000 in
theorem uint_0 (w : World) (B n c : Nat) (a : Option Addr) (xs : List Value) (u : Int) (hn : n ≤ 100000) (h0 : 128 ≤ u) (h1 : u < 256) (ho : w.ownsRow B 5 1 (.slice a n c) n xs) (hB : B ≤ w.heap.size) :
    Calls Try.prog 21 #[.slice a n c, .int .u64 u] w (AP w B n xs (204 :: be u 1) (Value.slice a n c).ownBlock) := by
  obtain ⟨i5, hi5, z50, z51, z52⟩ := info_parts info5
  have HB := fun (w2 : World) (gI capI : Nat) (hoI : w2.ownsRow B 5 1 (.slice (some ⟨gI, 0, none⟩) (n + 1) capI) (n + 1) (xs ++ [.int .u8 204])) (hB : B ≤ w2.heap.size) => bigEndian w2 B (n + 1) gI capI (xs ++ [.int .u8 204]) u 1 (by omega) (by omega) hoI hB
  have hoD : w.drew.ownsRow B 5 1 (.slice a n c) n xs := ho
  have q0 : u / 256 = 0 := by omega
  go_enter Try.func21, Try.ntmps21
  go_wp2_with fail
  go_loop [5] (fun i => ∃ k : Nat, k ≤ 0 ∧ i = .int .i64 k) (fun i => 3 - (intOf i).toNat)
  case atStart => exact ⟨0, by omega, rfl⟩
  case round =>
    obtain ⟨k, hk, rfl⟩ := hrel
    obtain rfl : k = 0 := by omega
    · go_wp2_with fail
      go_region_law (first
        | (refine step_append_lies _ rfl (.tmp 24) (.tmp 28) 27 rfl B 5 i5 _ 1 1 Try.underlying27 hi5 z50 z51 z52 rfl (by decide) (.slice a n c) n xs rfl (hoD.alloc _) ⟨w.heap.size, 0, none⟩ 1 1 [.int .u8 204] rfl rfl (cell_one_new _ _ _) (by simp [Value.oneCell']) (by decide) (by unfold maxLen; omega) (by omega) (by simp; omega) (w.heap.size + 1) (by simp) ?_; intro gI capI w2 hoI hgI hlI hltI)
        | (refine step_call rfl 22 #[.slice (some ⟨gI, 0, none⟩) (n + 1) capI, .int .u64 u, .int .i64 1] (fun _ => by kernel_rfl) ((HB w2 gI capI hoI (by have := hgI.size; simp at this; omega)).mono fun e w' h => AP.ret h) ?_; rintro v w3 ⟨g3, cap3, hv3, ho3, hb3⟩; cases hv3))
      simp only [Act.put, List.getElem_toArray, List.getElem_cons_succ, List.getElem_cons_zero, List.setIfInBounds_toArray, List.set_cons_succ, List.set_cons_zero]
      have hl : n + 1 + (be u 1).length = n + (204 :: be u 1).length := by rw [List.length_cons]; omega
      have hx : xs ++ [.int .u8 204] ++ bv (be u 1) = xs ++ bv (204 :: be u 1) := by simp [bv]
      have hw2 : Fr w w2 [(Value.slice a n c).ownBlock] := ((Fr.refl w _).trans (Fr.alloc _ _) (by simp)).trans (Fr.of_grown hgI).undrew (fun _ _ h => h)
      rw [hl, hx] at ho3
      go_wp2
      go_ret
      exact ⟨g3, cap3, by rw [← hl]; rfl, ho3, hw2.trans hb3 (fun q hq hm => by
        rcases hlI with hl | hl
        · simpa [hl] using hm
        · simp [hl] at hm; omega)⟩

set_option maxHeartbeats 3200000 in
theorem uint_1 (w : World) (B n c : Nat) (a : Option Addr) (xs : List Value) (u : Int) (hn : n ≤ 100000) (h0 : 256 ≤ u) (h1 : u < 65536) (ho : w.ownsRow B 5 1 (.slice a n c) n xs) (hB : B ≤ w.heap.size) :
    Calls Try.prog 21 #[.slice a n c, .int .u64 u] w (AP w B n xs (205 :: be u 2) (Value.slice a n c).ownBlock) := by
  obtain ⟨i5, hi5, z50, z51, z52⟩ := info_parts info5
  have HB := fun (w2 : World) (gI capI : Nat) (hoI : w2.ownsRow B 5 1 (.slice (some ⟨gI, 0, none⟩) (n + 1) capI) (n + 1) (xs ++ [.int .u8 205])) (hB : B ≤ w2.heap.size) => bigEndian w2 B (n + 1) gI capI (xs ++ [.int .u8 205]) u 2 (by omega) (by omega) hoI hB
  have hoD : w.drew.ownsRow B 5 1 (.slice a n c) n xs := ho
  have q0 : ¬ u / 256 = 0 := by omega
  have q1 : u / 65536 = 0 := by omega
  go_enter Try.func21, Try.ntmps21
  go_wp2_with fail
  go_loop [5] (fun i => ∃ k : Nat, k ≤ 1 ∧ i = .int .i64 k) (fun i => 3 - (intOf i).toNat)
  case atStart => exact ⟨0, by omega, rfl⟩
  case round =>
    obtain ⟨k, hk, rfl⟩ := hrel
    rcases (show k = 0 ∨ k = 1 by omega) with rfl | rfl
    · go_wp2
      go_round
      case rel => exact ⟨1, by omega, rfl⟩
      case measure => simp [intOf]
    · go_wp2_with fail
      go_region_law (first
        | (refine step_append_lies _ rfl (.tmp 24) (.tmp 28) 27 rfl B 5 i5 _ 1 1 Try.underlying27 hi5 z50 z51 z52 rfl (by decide) (.slice a n c) n xs rfl (hoD.alloc _) ⟨w.heap.size, 0, none⟩ 1 1 [.int .u8 205] rfl rfl (cell_one_new _ _ _) (by simp [Value.oneCell']) (by decide) (by unfold maxLen; omega) (by omega) (by simp; omega) (w.heap.size + 1) (by simp) ?_; intro gI capI w2 hoI hgI hlI hltI)
        | (refine step_call rfl 22 #[.slice (some ⟨gI, 0, none⟩) (n + 1) capI, .int .u64 u, .int .i64 2] (fun _ => by kernel_rfl) ((HB w2 gI capI hoI (by have := hgI.size; simp at this; omega)).mono fun e w' h => AP.ret h) ?_; rintro v w3 ⟨g3, cap3, hv3, ho3, hb3⟩; cases hv3))
      simp only [Act.put, List.getElem_toArray, List.getElem_cons_succ, List.getElem_cons_zero, List.setIfInBounds_toArray, List.set_cons_succ, List.set_cons_zero]
      have hl : n + 1 + (be u 2).length = n + (205 :: be u 2).length := by rw [List.length_cons]; omega
      have hx : xs ++ [.int .u8 205] ++ bv (be u 2) = xs ++ bv (205 :: be u 2) := by simp [bv]
      have hw2 : Fr w w2 [(Value.slice a n c).ownBlock] := ((Fr.refl w _).trans (Fr.alloc _ _) (by simp)).trans (Fr.of_grown hgI).undrew (fun _ _ h => h)
      rw [hl, hx] at ho3
      go_wp2
      go_ret
      exact ⟨g3, cap3, by rw [← hl]; rfl, ho3, hw2.trans hb3 (fun q hq hm => by
        rcases hlI with hl | hl
        · simpa [hl] using hm
        · simp [hl] at hm; omega)⟩

set_option maxHeartbeats 3200000 in
theorem uint_2 (w : World) (B n c : Nat) (a : Option Addr) (xs : List Value) (u : Int) (hn : n ≤ 100000) (h0 : 65536 ≤ u) (h1 : u < 4294967296) (ho : w.ownsRow B 5 1 (.slice a n c) n xs) (hB : B ≤ w.heap.size) :
    Calls Try.prog 21 #[.slice a n c, .int .u64 u] w (AP w B n xs (206 :: be u 4) (Value.slice a n c).ownBlock) := by
  obtain ⟨i5, hi5, z50, z51, z52⟩ := info_parts info5
  have HB := fun (w2 : World) (gI capI : Nat) (hoI : w2.ownsRow B 5 1 (.slice (some ⟨gI, 0, none⟩) (n + 1) capI) (n + 1) (xs ++ [.int .u8 206])) (hB : B ≤ w2.heap.size) => bigEndian w2 B (n + 1) gI capI (xs ++ [.int .u8 206]) u 4 (by omega) (by omega) hoI hB
  have hoD : w.drew.ownsRow B 5 1 (.slice a n c) n xs := ho
  have q0 : ¬ u / 256 = 0 := by omega
  have q1 : ¬ u / 65536 = 0 := by omega
  have q2 : u / 4294967296 = 0 := by omega
  go_enter Try.func21, Try.ntmps21
  go_wp2_with fail
  go_loop [5] (fun i => ∃ k : Nat, k ≤ 2 ∧ i = .int .i64 k) (fun i => 3 - (intOf i).toNat)
  case atStart => exact ⟨0, by omega, rfl⟩
  case round =>
    obtain ⟨k, hk, rfl⟩ := hrel
    rcases (show k = 0 ∨ k = 1 ∨ k = 2 by omega) with rfl | rfl | rfl
    · go_wp2
      go_round
      case rel => exact ⟨1, by omega, rfl⟩
      case measure => simp [intOf]
    · go_wp2
      go_round
      case rel => exact ⟨2, by omega, rfl⟩
      case measure => simp [intOf]
    · go_wp2_with fail
      go_region_law (first
        | (refine step_append_lies _ rfl (.tmp 24) (.tmp 28) 27 rfl B 5 i5 _ 1 1 Try.underlying27 hi5 z50 z51 z52 rfl (by decide) (.slice a n c) n xs rfl (hoD.alloc _) ⟨w.heap.size, 0, none⟩ 1 1 [.int .u8 206] rfl rfl (cell_one_new _ _ _) (by simp [Value.oneCell']) (by decide) (by unfold maxLen; omega) (by omega) (by simp; omega) (w.heap.size + 1) (by simp) ?_; intro gI capI w2 hoI hgI hlI hltI)
        | (refine step_call rfl 22 #[.slice (some ⟨gI, 0, none⟩) (n + 1) capI, .int .u64 u, .int .i64 4] (fun _ => by kernel_rfl) ((HB w2 gI capI hoI (by have := hgI.size; simp at this; omega)).mono fun e w' h => AP.ret h) ?_; rintro v w3 ⟨g3, cap3, hv3, ho3, hb3⟩; cases hv3))
      simp only [Act.put, List.getElem_toArray, List.getElem_cons_succ, List.getElem_cons_zero, List.setIfInBounds_toArray, List.set_cons_succ, List.set_cons_zero]
      have hl : n + 1 + (be u 4).length = n + (206 :: be u 4).length := by rw [List.length_cons]; omega
      have hx : xs ++ [.int .u8 206] ++ bv (be u 4) = xs ++ bv (206 :: be u 4) := by simp [bv]
      have hw2 : Fr w w2 [(Value.slice a n c).ownBlock] := ((Fr.refl w _).trans (Fr.alloc _ _) (by simp)).trans (Fr.of_grown hgI).undrew (fun _ _ h => h)
      rw [hl, hx] at ho3
      go_wp2
      go_ret
      exact ⟨g3, cap3, by rw [← hl]; rfl, ho3, hw2.trans hb3 (fun q hq hm => by
        rcases hlI with hl | hl
        · simpa [hl] using hm
        · simp [hl] at hm; omega)⟩

set_option maxHeartbeats 3200000 in
theorem uint_3 (w : World) (B n c : Nat) (a : Option Addr) (xs : List Value) (u : Int) (hn : n ≤ 100000) (h0 : 4294967296 ≤ u) (h1 : u < 18446744073709551616) (ho : w.ownsRow B 5 1 (.slice a n c) n xs) (hB : B ≤ w.heap.size) :
    Calls Try.prog 21 #[.slice a n c, .int .u64 u] w (AP w B n xs (207 :: be u 8) (Value.slice a n c).ownBlock) := by
  obtain ⟨i5, hi5, z50, z51, z52⟩ := info_parts info5
  have HB := fun (w2 : World) (gI capI : Nat) (hoI : w2.ownsRow B 5 1 (.slice (some ⟨gI, 0, none⟩) (n + 1) capI) (n + 1) (xs ++ [.int .u8 207])) (hB : B ≤ w2.heap.size) => bigEndian w2 B (n + 1) gI capI (xs ++ [.int .u8 207]) u 8 (by omega) (by omega) hoI hB
  have hoD : w.drew.ownsRow B 5 1 (.slice a n c) n xs := ho
  have q0 : ¬ u / 256 = 0 := by omega
  have q1 : ¬ u / 65536 = 0 := by omega
  have q2 : ¬ u / 4294967296 = 0 := by omega
  go_enter Try.func21, Try.ntmps21
  go_wp2_with fail
  go_loop [5] (fun i => ∃ k : Nat, k ≤ 3 ∧ i = .int .i64 k) (fun i => 3 - (intOf i).toNat)
  case atStart => exact ⟨0, by omega, rfl⟩
  case round =>
    obtain ⟨k, hk, rfl⟩ := hrel
    rcases (show k = 0 ∨ k = 1 ∨ k = 2 ∨ k = 3 by omega) with rfl | rfl | rfl | rfl
    · go_wp2
      go_round
      case rel => exact ⟨1, by omega, rfl⟩
      case measure => simp [intOf]
    · go_wp2
      go_round
      case rel => exact ⟨2, by omega, rfl⟩
      case measure => simp [intOf]
    · go_wp2
      go_round
      case rel => exact ⟨3, by omega, rfl⟩
      case measure => simp [intOf]
    · go_wp2_with fail
      go_region_law (first
        | (refine step_append_lies _ rfl (.tmp 24) (.tmp 28) 27 rfl B 5 i5 _ 1 1 Try.underlying27 hi5 z50 z51 z52 rfl (by decide) (.slice a n c) n xs rfl (hoD.alloc _) ⟨w.heap.size, 0, none⟩ 1 1 [.int .u8 207] rfl rfl (cell_one_new _ _ _) (by simp [Value.oneCell']) (by decide) (by unfold maxLen; omega) (by omega) (by simp; omega) (w.heap.size + 1) (by simp) ?_; intro gI capI w2 hoI hgI hlI hltI)
        | (refine step_call rfl 22 #[.slice (some ⟨gI, 0, none⟩) (n + 1) capI, .int .u64 u, .int .i64 8] (fun _ => by kernel_rfl) ((HB w2 gI capI hoI (by have := hgI.size; simp at this; omega)).mono fun e w' h => AP.ret h) ?_; rintro v w3 ⟨g3, cap3, hv3, ho3, hb3⟩; cases hv3))
      simp only [Act.put, List.getElem_toArray, List.getElem_cons_succ, List.getElem_cons_zero, List.setIfInBounds_toArray, List.set_cons_succ, List.set_cons_zero]
      have hl : n + 1 + (be u 8).length = n + (207 :: be u 8).length := by rw [List.length_cons]; omega
      have hx : xs ++ [.int .u8 207] ++ bv (be u 8) = xs ++ bv (207 :: be u 8) := by simp [bv]
      have hw2 : Fr w w2 [(Value.slice a n c).ownBlock] := ((Fr.refl w _).trans (Fr.alloc _ _) (by simp)).trans (Fr.of_grown hgI).undrew (fun _ _ h => h)
      rw [hl, hx] at ho3
      go_wp2
      go_ret
      exact ⟨g3, cap3, by rw [← hl]; rfl, ho3, hw2.trans hb3 (fun q hq hm => by
        rcases hlI with hl | hl
        · simpa [hl] using hm
        · simp [hl] at hm; omega)⟩

theorem appendUint (w : World) (B n c : Nat) (a : Option Addr) (xs : List Value) (u : Int) (hn : n ≤ 100000) (h0 : 0 ≤ u) (h1 : u < 18446744073709551616) (ho : w.ownsRow B 5 1 (.slice a n c) n xs) (hB : B ≤ w.heap.size) :
    Calls Try.prog 21 #[.slice a n c, .int .u64 u] w (AP w B n xs (enc u) (Value.slice a n c).ownBlock) := by
  unfold enc
  split
  · exact uint_small w B n c a xs u hn h0 (by omega) ho hB
  split
  · exact uint_0 w B n c a xs u hn (by omega) (by omega) ho hB
  split
  · exact uint_1 w B n c a xs u hn (by omega) (by omega) ho hB
  split
  · exact uint_2 w B n c a xs u hn (by omega) (by omega) ho hB
  · exact uint_3 w B n c a xs u hn (by omega) (by omega) ho hB

theorem zzAppendUint (w : World) (B n c : Nat) (a : Option Addr) (xs : List Value) (u : Int) (hn : n ≤ 100000) (h0 : 0 ≤ u) (h1 : u < 18446744073709551616) (ho : w.ownsRow B 5 1 (.slice a n c) n xs) (hB : B ≤ w.heap.size) :
    Calls Try.prog 17 #[.slice a n c, .int .u64 u] w (AP w B n xs (enc u) (Value.slice a n c).ownBlock) := by
  go_enter Try.func17, Try.ntmps17
  go_wp2_with (go_at_call 21; refine (appendUint w B n c a xs u hn h0 h1 ho hB).mono ?_; rintro e w' ⟨g, cap, rfl, hp⟩)
  go_ret
  exact ⟨g, cap, rfl, hp⟩
end Go.Proofs.Qxb6003809a
