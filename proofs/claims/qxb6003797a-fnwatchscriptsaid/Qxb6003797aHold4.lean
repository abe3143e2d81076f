import Derived.Test.Qxb6003797aHold3
namespace Go.Proofs.Qxb6003797a
open Go.RowKit

def RECC (o : ByteArray) (i v : Int) (hears : Value) : Array Value := #[.string o, .int .u64 i, .int .u64 v, hears, .slice none 0 0, .slice none 0 0, .slice none 0 0, .slice none 0 0, .slice none 0 0, .slice none 0 0, .slice none 0 0, .slice none 0 0, .slice none 0 0, .slice none 0 0, .slice none 0 0, .bool false]
theorem rec_eq (o : ByteArray) (i v : Int) (hears : Value) : REC o i v hears = .agg (RECC o i v hears) := rfl

theorem hold_any (w : World) (B n : Nat) (F : NF) (h : NI w B n F) (o : ByteArray) (i v : Int) (aH : Option Addr) (cH : Nat) (L : List ByteArray) (hs : SS w aH cH L) (hsR : ∀ b off, aH = some ⟨b, off, none⟩ → b < B ∨ B + 16 < b) (hL : L.length ≤ 1000) (hn : n ≤ 1000) (hsz : ∀ s ∈ L, s.size ≤ maxLen) (ho : o.size ≤ maxLen)
    (a7 : Option Addr) (n7 c7 : Nat) (a9 : Option Addr) (n9 c9 : Nat) (a14 : Option Addr) (n14 c14 : Nat) (h7 : a7 = none → n7 = 0 ∧ c7 = 0) (h9 : a9 = none → n9 = 0 ∧ c9 = 0) (h14 : a14 = none → n14 = 0 ∧ c14 = 0) (hnb : F.nb o = none) :
    Calls Try.prog 47 #[.pointer (some ⟨B + 16, 0, none⟩), .agg (RV o i v (.slice aH L.length cH) a7 n7 c7 a9 n9 c9 a14 n14 c14)] w (HoldPost w B n F o (RECC o i v (.slice aH L.length cH)) L) := by
  refine hold_core w B n F h o L _ _ (!a7.isNone || !a9.isNone || !a14.isNone) hn ho hnb (by kernel_rfl) (by kernel_rfl) rfl (by simp [RECC, Value.oneCell']) ?_ ?_ ?_ ?_
  · intro hne
    have e7 : a7 = none := by cases a7 <;> simp_all
    have e9 : a9 = none := by cases a9 <;> simp_all
    have e14 : a14 = none := by cases a14 <;> simp_all
    obtain ⟨rfl, rfl⟩ := h7 e7
    obtain ⟨rfl, rfl⟩ := h9 e9
    obtain ⟨rfl, rfl⟩ := h14 e14
    subst e7 e9 e14
    rfl
  · intro w1
    exact (near_any o i v (.slice aH L.length cH) a7 n7 c7 a9 n9 c9 a14 n14 c14 w1).mono fun e w' ⟨h1, h2⟩ => ⟨h1, by subst h2; exact (Below.refl _ _).alloc (Nat.le_refl _) _⟩
  · intro w1
    exact shed_any o i v aH L.length cH a7 n7 c7 a9 n9 c9 a14 n14 c14 w1
  · intro w1 F1 hN1 hF1
    exact heardIn w1 B (n + 2) F1 hN1 o i v aH cH L (hs.keep hF1 (fun b off e => by have := hsR b off e; simp; omega)) (fun b off e => by have := hsR b off e; omega) hL (by omega) hsz ho

theorem info107 : (Try.prog.info? 107).map (fun i => (i.zero, i.size, i.bytes)) = some (some (.agg #[.string ⟨#[]⟩, .string ⟨#[]⟩, .int .u64 0]), 3, 40) := by kernel_rfl

set_option maxRecDepth 100000 in
set_option maxHeartbeats 1600000 in
theorem zzHold (w : World) (B n : Nat) (F : NF) (h : NI w B n F) (o : ByteArray) (i v : Int) (aH : Option Addr) (cH : Nat) (L : List ByteArray) (hs : SS w aH cH L) (hsR : ∀ b off, aH = some ⟨b, off, none⟩ → b < B ∨ B + 16 < b) (hL : L.length ≤ 1000) (hn : n ≤ 1000) (hsz : ∀ s ∈ L, s.size ≤ maxLen) (ho : o.size ≤ maxLen)
    (a7 : Option Addr) (n7 c7 : Nat) (a9 : Option Addr) (n9 c9 : Nat) (h7 : a7 = none → n7 = 0 ∧ c7 = 0) (h9 : a9 = none → n9 = 0 ∧ c9 = 0) (aV : Option Addr) (cV : Nat) (LV : List ByteArray) (hV : SS w aV cV LV) (hLV : LV.length ≤ 1000) (hnb : F.nb o = none) :
    Calls Try.prog 33 #[.pointer (some ⟨B + 16, 0, none⟩), .string o, .int .u64 i, .int .u64 v, .slice aH L.length cH, .slice a7 n7 c7, .slice a9 n9 c9, .slice aV LV.length cV] w (HoldPost w B n F o (RECC o i v (.slice aH L.length cH)) L) := by
  have q22 := nq22
  cases aV with
  | none =>
    have HH := hold_any w B n F h o i v aH cH L hs hsR hL hn hsz ho a7 n7 c7 a9 n9 c9 none 0 0 h7 h9 (fun _ => ⟨rfl, rfl⟩) hnb
    go_enter Try.func33, Try.ntmps33
    go_wp2_with fail
    refine HH.mono ?_
    rintro e w' ⟨rfl, hp⟩
    go_wp2
    go_end0
    exact ⟨rfl, hp⟩
  | some x =>
    obtain ⟨i0, hi, hz0, hz1, hz2⟩ := info_parts info107
    go_enter Try.func33, Try.ntmps33
    go_wp2_with (at_make; refine wpList_make_own _ rfl _ _ 81 rfl w.heap.size 107 i0 _ 3 Try.underlying81 hi hz0 hz1 _ _ _ LV.length rfl rfl rfl (by rw [hz2]; omega) (by unfold maxLen; omega) (Nat.le_refl _) ?_; intro w1 hown hgrow)
    clear hz0 hz1 hz2 hi i0
    have hb1 : Below w.heap.size w w1 := (Below.refl _ _).grown hgrow (Nat.le_refl _) (by simp)
    clear hgrow
    go_loopw [16, 26] (fun z i wr => ∃ (k g cap : Nat) (xs : List Value), k ≤ LV.length ∧ i = .int .i64 k ∧ z = .slice (some ⟨g, 0, none⟩) k cap ∧ wr.ownsRow w.heap.size 107 3 (.slice (some ⟨g, 0, none⟩) k cap) k xs ∧ Below w.heap.size w wr) (fun _ i _ => LV.length - (intOf i).toNat)
    case atStart => exact ⟨0, w.heap.size, LV.length, [], Nat.zero_le _, rfl, rfl, hown, hb1⟩
    case round =>
      clear hown hb1
      obtain ⟨k, g, cap, xs, hk, rfl, rfl, hown, hb⟩ := hrel
      by_cases hlt : k < LV.length
      · obtain ⟨b, off, e, hbw, hc⟩ := hV.at (by omega)
        cases e
        have ck : wr.cell? ⟨b, off + k, none⟩ = some (.string LV[k]) := by
          rw [hb.cell (p := ⟨b, off + k, none⟩) hbw]
          exact hc k hlt
        have hbs := hb.size
        obtain ⟨i0, hi, hz0, hz1, hz2⟩ := info_parts info107
        clear hc
        go_wp2_with (at_builtin; refine wpList_append_lies _ rfl (.tmp 30) (.tmp 35) 81 rfl w.heap.size 107 i0 _ 3 40 Try.underlying81 hi hz0 hz1 hz2 rfl (by decide) (.slice (some ⟨g, 0, none⟩) k cap) k xs rfl (hown.alloc _) ⟨wr.heap.size, 0, none⟩ 1 1 [.string LV[k], .string LV[k], .int .u64 1] rfl rfl (World.news_of_block (cs := #[.string LV[k], .string LV[k], .int .u64 1]) (heap_alloc_new _ _)) (by simp [Value.oneCell']) (by decide) (by unfold maxLen; omega) (by omega) (by simp; omega) (wr.heap.size + 1) (by simp) ?_; intro g' cap' w2 hown2 hgrow2 hl2 hlt2)
        have hb2 : Below w.heap.size w w2 := (hb.alloc hbs _).grown hgrow2 (by simp; omega) (fun x hx => (hown.lt x hx).1)
        go_roundw
        case rel => exact ⟨k + 1, g', cap', _, by omega, by go_num, rfl, hown2, hb2⟩
        case measure => simp [intOf]; omega
      · have hN := h.keep (below_fr hb) (by simp)
        have HH := hold_any wr B n F hN o i v aH cH L (hs.keep (below_fr hb) (by simp)) hsR hL hn hsz ho a7 n7 c7 a9 n9 c9 (some ⟨g, 0, none⟩) k cap h7 h9 (fun e => by cases e) hnb
        go_wp2_with fail
        refine HH.mono ?_
        rintro e w' ⟨rfl, f', hp1, hp2, hp3, hp4⟩
        go_wp2
        go_end0
        exact ⟨rfl, f', hp1, hp2, hp3, ((below_fr hb).mono (by simp)).trans hp4 (fun _ _ h => h)⟩

/-! ### What is read of the node behind it -/
theorem zero83 (w : World) : (zeroValue 83).run Try.prog w = .ok (REC ⟨#[]⟩ 0 0 (.slice none 0 0)) w := by kernel_rfl
theorem zero4 (w : World) : (zeroValue 4).run Try.prog w = .ok (.bool false) w := by kernel_rfl

set_option maxHeartbeats 800000 in
theorem pending_some (w : World) (B n : Nat) (F : NF) (h : NI w B n F) (s : ByteArray) (hs : s.size ≤ maxLen) (x : Bool) (hv : F.pe s = some (.bool x)) :
    Calls Try.prog 36 #[.pointer (some ⟨B + 16, 0, none⟩), .string s] w fun e w' => e = .returned (.bool x) ∧ w' = w := by
  have c := h.c_pe
  have HV : Hid (F.pe s = some (.bool x)) := hv
  clear hv
  go_enter Try.func36, Try.ntmps36
  go_wp2_with (at_lookup; refine wpList_get_some _ rfl _ _ 87 rfl 9 4 Try.underlying9 Try.underlying87 _ (zero4 _) (B + 4) n F.pe rfl h.pe s rfl hs _ HV.out ?_)
  go_ret
  exact ⟨rfl, rfl⟩

set_option maxHeartbeats 800000 in
theorem heard_some (w : World) (B n : Nat) (F : NF) (h : NI w B n F) (s : ByteArray) (hs : s.size ≤ maxLen) (hv : F.hr s ≠ none) :
    Calls Try.prog 37 #[.pointer (some ⟨B + 16, 0, none⟩), .string s] w fun e w' => e = .returned (.bool true) ∧ w' = w := by
  have c := h.c_hr
  obtain ⟨x, hx⟩ := Option.ne_none_iff_exists'.1 hv
  have HV : Hid (F.hr s = some x) := hx
  clear hv hx
  go_enter Try.func37, Try.ntmps37
  go_wp2_with (at_lookup; refine wpList_look_some _ rfl _ _ 91 rfl 9 72 Try.underlying9 Try.underlying91 _ (zero72 _) (B + 15) n F.hr rfl h.hr s rfl hs _ HV.out ?_)
  go_ret
  exact ⟨rfl, rfl⟩

theorem field3 (o : ByteArray) (i v : Int) (x : Value) (w : World) (hx : x.oneCell' = true) : (Instr.field 83 (.agg (RECC o i v x)) 3).run Try.prog w = .ok x w := by
  cases x <;> first | kernel_rfl | simp [Value.oneCell'] at hx

set_option maxRecDepth 100000 in
set_option maxHeartbeats 1600000 in
theorem hears_some (w : World) (B n : Nat) (F : NF) (h : NI w B n F) (s o : ByteArray) (i v : Int) (aH : Option Addr) (nH cH : Nat) (hs : s.size ≤ maxLen) (hv : F.re s = some (.agg (RECC o i v (.slice aH nH cH)))) :
    Calls Try.prog 35 #[.pointer (some ⟨B + 16, 0, none⟩), .string s] w fun e w' => e = .returned (.slice aH nH cH) ∧ w' = w := by
  have c := h.c_re
  have HV : Hid (F.re s = some (.agg (RECC o i v (.slice aH nH cH)))) := hv
  have hf := fun w => field3 o i v (.slice aH nH cH) w rfl
  clear hv
  go_enter Try.func35, Try.ntmps35
  go_wp2_with (at_lookup; refine wpList_get_some _ rfl _ _ 86 rfl 9 83 Try.underlying9 Try.underlying86 _ (zero83 _) (B + 3) n F.re rfl h.re s rfl hs _ HV.out ?_)
  go_ret
  exact ⟨rfl, rfl⟩

set_option maxRecDepth 100000 in
set_option maxHeartbeats 1600000 in
theorem record_some (w : World) (B n : Nat) (F : NF) (h : NI w B n F) (s o : ByteArray) (i v : Int) (aH : Option Addr) (nH cH : Nat) (hs : s.size ≤ maxLen) (hv : F.re s = some (.agg (RECC o i v (.slice aH nH cH)))) :
    Calls Try.prog 34 #[.pointer (some ⟨B + 16, 0, none⟩), .string s] w fun e w' => e = .returned (.tuple #[.int .u64 i, .int .u64 v, .bool false, .bool true]) ∧ Below w.heap.size w w' := by
  have c := h.c_re
  have HV : Hid (F.re s = some (.agg (RECC o i v (.slice aH nH cH)))) := hv
  have H48 := near_any o i v (.slice aH nH cH) none 0 0 none 0 0 none 0 0
  clear hv
  obtain ⟨R, hR⟩ : ∃ R, R = RECC o i v (.slice aH nH cH) := ⟨_, rfl⟩
  have hRs : R.size = 16 := by rw [hR]; rfl
  have hRi : (Try.prog.info? 83).map (·.size) = some R.size := by rw [hRs]; kernel_rfl
  have hR1 : R.all (·.oneCell') = true := by rw [hR]; simp [RECC, Value.oneCell']
  have hRe : R[1]? = some (.int .u64 i) := by rw [hR]; rfl
  have hRv : R[2]? = some (.int .u64 v) := by rw [hR]; rfl
  have HN : ∀ w, Calls Try.prog 48 #[.agg R] w fun e w' => e = .returned (.bool false) ∧ Below w.heap.size w w' := by
    intro w
    rw [hR]
    exact (H48 w).mono fun e w' ⟨h1, h2⟩ => ⟨h1, by subst h2; exact (Below.refl _ _).alloc (Nat.le_refl _) _⟩
  have HV2 : Hid (F.re s = some (.agg R)) := by rw [hR]; exact HV.out
  clear HV H48 hR
  go_enter Try.func34, Try.ntmps34
  go_wp2_with (first
    | (at_lookup; refine wpList_look_some _ rfl _ _ 86 rfl 9 83 Try.underlying9 Try.underlying86 _ (zero83 _) (B + 3) n F.re rfl h.re s rfl hs _ HV2.out ?_)
    | (refine wpList_store_block rfl 83 (.tmp 8) (.tmp 17) rfl w.heap.size R _ 83 rfl rfl (heap_alloc_new _ _) (by rw [hRs]; rfl) hRi hR1 ?_; intro w3 hb3 hg3))
  have hb0 : Below w.heap.size w w3 := ((Below.refl _ _).alloc (Nat.le_refl _) _).grown hg3 (by simp) (fun k hk => by cases hk; exact Nat.le_refl _)
  clear hg3
  have hS : (fun w' : World => w'.heap[w.heap.size]? = some (.cells R 83 (0, 0))) w3.drew := hb3
  refine wp_region_late (z := 10) (S := fun w' => w'.heap[w.heap.size]? = some (.cells R 83 (0, 0))) (by kernel_rfl) ?_
  change wpAnyL _ _ _ _ _ _ _ _ _ w3.drew
  refine wpAnyL_takeW (i := 0) (v := .pointer (some ⟨w.heap.size, 1, none⟩)) (some 19) rfl (by kernel_rfl) (by kernel_rfl) (by kernel_rfl) (by kernel_rfl) (by decide) (fun _ _ _ h => h) (.inl ⟨by kernel_rfl, fun _ => by kernel_rfl⟩) (fun _ => hS) ?_
  refine wpAnyL_takeR (i := 1) (v := .int .u64 i) (some 20) rfl (by kernel_rfl) (by kernel_rfl) (by kernel_rfl) (by kernel_rfl) (by kernel_rfl) (by decide) (by kernel_rfl) (fun _ _ _ h => h) (.inl ⟨by kernel_rfl, fun _ hx => run_load1 (T := 39) (x := .tmp 19) (b := w.heap.size) (j := 1) (by kernel_rfl) (by kernel_rfl) (by kernel_rfl) ((cell_of_row _ _ _ _ _ _ hx).trans hRe)⟩) hS ?_
  refine wpAnyL_takeW (i := 2) (v := .pointer (some ⟨w.heap.size, 2, none⟩)) (some 21) rfl (by kernel_rfl) (by kernel_rfl) (by kernel_rfl) (by kernel_rfl) (by decide) (fun _ _ _ h => h) (.inl ⟨by kernel_rfl, fun _ => by kernel_rfl⟩) (fun _ => hS) ?_
  refine wpAnyL_takeR (i := 3) (v := .int .u64 v) (some 22) rfl (by kernel_rfl) (by kernel_rfl) (by kernel_rfl) (by kernel_rfl) (by kernel_rfl) (by decide) (by kernel_rfl) (fun _ _ _ h => h) (.inl ⟨by kernel_rfl, fun _ hx => run_load1 (T := 39) (x := .tmp 21) (b := w.heap.size) (j := 2) (by kernel_rfl) (by kernel_rfl) (by kernel_rfl) ((cell_of_row _ _ _ _ _ _ hx).trans hRv)⟩) hS ?_
  refine wpAnyL_takeR (i := 4) (v := .agg R) (some 23) rfl (by kernel_rfl) (by kernel_rfl) (by kernel_rfl) (by kernel_rfl) (by kernel_rfl) (by decide) (by kernel_rfl) (fun _ _ _ h => h) (.inl ⟨by kernel_rfl, fun _ hx => run_loadB (T := 83) (x := .tmp 8) (b := w.heap.size) (by kernel_rfl) hRi (by kernel_rfl) (by kernel_rfl) hx⟩) hS ?_
  refine wpAnyL_takeW (i := 6) (v := .bool true) (some 25) rfl (by kernel_rfl) (by kernel_rfl) (by kernel_rfl) (by kernel_rfl) (by decide) (fun _ _ _ h => h) (.inl ⟨by kernel_rfl, fun _ => by kernel_rfl⟩) (fun _ => hS) ?_
  refine wpAnyL_all (rs := [5]) (by kernel_rfl) (by simp) ?_
  intro i hi
  obtain rfl : i = 5 := by simpa using hi
  refine op_call (some 24) 48 #[.agg R] (R := fun e w' => e = .returned (.bool false) ∧ Below w3.drew.heap.size w3.drew w') rfl (by kernel_rfl) (by kernel_rfl) (fun _ => by kernel_rfl) ((HN _).mono fun e w' h => ⟨⟨_, h.1⟩, h⟩) ?_
  rintro e w4 ⟨he, hb4⟩
  cases he
  have hS4 : w4.heap[w.heap.size]? = some (.cells R 83 (0, 0)) := below_block hb4 hb3 (lt_of_block hb3)
  refine ⟨fun _ _ => hS4, ?_⟩
  refine wpAnyL_takeW (i := 7) (v := .int .u64 i) (some 4) rfl (by kernel_rfl) (by kernel_rfl) (by kernel_rfl) (by kernel_rfl) (by decide) (fun _ _ _ h => h) (.inl ⟨by kernel_rfl, fun _ => by kernel_rfl⟩) (fun _ => hS4) ?_
  refine wpAnyL_takeW (i := 8) (v := .int .u64 v) (some 5) rfl (by kernel_rfl) (by kernel_rfl) (by kernel_rfl) (by kernel_rfl) (by decide) (fun _ _ _ h => h) (.inl ⟨by kernel_rfl, fun _ => by kernel_rfl⟩) (fun _ => hS4) ?_
  refine wpAnyL_takeW (i := 9) (v := .bool false) (some 6) rfl (by kernel_rfl) (by kernel_rfl) (by kernel_rfl) (by kernel_rfl) (by decide) (fun _ _ _ h => h) (.inl ⟨by kernel_rfl, fun _ => by kernel_rfl⟩) (fun _ => hS4) ?_
  refine wpAnyL_all (rs := [10]) (by kernel_rfl) (by simp) ?_
  intro i hi
  obtain rfl : i = 10 := by simpa using hi
  refine op_value (some 7) (.bool true) rfl (by kernel_rfl) (by kernel_rfl) (by kernel_rfl) ⟨fun h => (h rfl).elim, ?_⟩
  refine wpAnyL_done (by kernel_rfl) ?_ _
  have hbf : Below w.heap.size w w4 := hb0.trans (Below.mono (w := w3) ⟨hb4.os, hb4.tape, hb4.output, hb4.size, hb4.block⟩ hb0.size)
  simp only [Act.put, List.setIfInBounds_toArray, List.set_cons_succ, List.set_cons_zero]
  go_wp2
  exact bodyPost_ret (v := .tuple #[.int .u64 i, .int .u64 v, .bool false, .bool true]) (by simp [results, Try.results34, go_sem]) rfl ⟨rfl, hbf⟩
end Go.Proofs.Qxb6003797a
