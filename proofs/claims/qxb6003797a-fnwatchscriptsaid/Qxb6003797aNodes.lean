import Derived.Test.Qxb6003797aSnap
namespace Go.Proofs.Qxb6003797a
open Go.RowKit

set_option maxRecDepth 100000 in
set_option maxHeartbeats 800000 in
theorem watches (w : World) (B n : Nat) (F : NF) (N : ByteArray → Option (Int × Bool)) (S : ByteArray → Option (Int × Int)) (h : NI w B n F) (hW : WS F N S) (s : ByteArray) (hs : s.size ≤ maxLen) :
    Calls Try.prog 50 #[.pointer (some ⟨B + 16, 0, none⟩), .string s] w fun e w' => e = .returned (.bool ((N s).isSome || (S s).isSome)) ∧ Below w.heap.size w w' := by
  have c1 := h.c_nb
  have c2 := fun o => (h.alloc o).c_si
  have hm := h.nb
  have hm2 := fun o => (h.alloc o).si
  cases e1 : N s with
  | none =>
    have hv : Hid (F.nb s = none) := by show F.nb s = none; rw [hW.nb]; simp [e1]
    cases e2 : S s with
    | none =>
      have hv2 : Hid (F.si s = none) := by show F.si s = none; rw [hW.si]; simp [e2]
      clear e1 e2 hW
      go_enter Try.func50, Try.ntmps50
      go_wp2_with (first | (at_lookup; refine wpList_look_none _ rfl _ _ 84 rfl 9 96 Try.underlying9 Try.underlying84 _ (zeroH _) (B + 1) n F.nb rfl hm s rfl hs hv.out ?_) | (at_lookup; refine wpList_look_none _ rfl _ _ 85 rfl 9 102 Try.underlying9 Try.underlying85 _ (zero102 _) (B + 2) n F.si rfl (hm2 _) s rfl hs hv2.out ?_))
      go_ret
      exact ⟨rfl, ((Below.refl _ _).alloc (Nat.le_refl _) _).alloc (by simp) _⟩
    | some y =>
      have hv2 : Hid (F.si s = some (.agg #[.int .u64 y.1, .int .i64 y.2, .int .i64 y.2, .bool true])) := by show F.si s = some (sv y); rw [hW.si]; simp [e2]
      clear e1 e2 hW
      go_enter Try.func50, Try.ntmps50
      go_wp2_with (first | (at_lookup; refine wpList_look_none _ rfl _ _ 84 rfl 9 96 Try.underlying9 Try.underlying84 _ (zeroH _) (B + 1) n F.nb rfl hm s rfl hs hv.out ?_) | (at_lookup; refine wpList_look_some _ rfl _ _ 85 rfl 9 102 Try.underlying9 Try.underlying85 _ (zero102 _) (B + 2) n F.si rfl (hm2 _) s rfl hs _ hv2.out ?_))
      go_ret
      exact ⟨rfl, ((Below.refl _ _).alloc (Nat.le_refl _) _).alloc (by simp) _⟩
  | some x =>
    have hv : Hid (F.nb s = some (.agg #[.int .i64 x.1, .int .u64 0, .int .u64 0, .bool x.2])) := by show F.nb s = some (hv x); rw [hW.nb]; simp [e1]
    cases e2 : S s with
    | none =>
      have hv2 : Hid (F.si s = none) := by show F.si s = none; rw [hW.si]; simp [e2]
      clear e1 e2 hW
      go_enter Try.func50, Try.ntmps50
      go_wp2_with (first | (at_lookup; refine wpList_look_some _ rfl _ _ 84 rfl 9 96 Try.underlying9 Try.underlying84 _ (zeroH _) (B + 1) n F.nb rfl hm s rfl hs _ hv.out ?_) | (at_lookup; refine wpList_look_none _ rfl _ _ 85 rfl 9 102 Try.underlying9 Try.underlying85 _ (zero102 _) (B + 2) n F.si rfl (hm2 _) s rfl hs hv2.out ?_))
      go_ret
      exact ⟨rfl, ((Below.refl _ _).alloc (Nat.le_refl _) _).alloc (by simp) _⟩
    | some y =>
      have hv2 : Hid (F.si s = some (.agg #[.int .u64 y.1, .int .i64 y.2, .int .i64 y.2, .bool true])) := by show F.si s = some (sv y); rw [hW.si]; simp [e2]
      clear e1 e2 hW
      go_enter Try.func50, Try.ntmps50
      go_wp2_with (first | (at_lookup; refine wpList_look_some _ rfl _ _ 84 rfl 9 96 Try.underlying9 Try.underlying84 _ (zeroH _) (B + 1) n F.nb rfl hm s rfl hs _ hv.out ?_) | (at_lookup; refine wpList_look_some _ rfl _ _ 85 rfl 9 102 Try.underlying9 Try.underlying85 _ (zero102 _) (B + 2) n F.si rfl (hm2 _) s rfl hs _ hv2.out ?_))
      go_ret
      exact ⟨rfl, ((Below.refl _ _).alloc (Nat.le_refl _) _).alloc (by simp) _⟩

theorem zero39 (w : World) : (zeroValue 39).run Try.prog w = .ok (.int .u64 0) w := by kernel_rfl

set_option maxHeartbeats 800000 in
theorem zzLacks_none (w : World) (B n : Nat) (F : NF) (h : NI w B n F) (s : ByteArray) (hs : s.size ≤ maxLen) (hv : F.la s = none) :
    Calls Try.prog 30 #[.pointer (some ⟨B + 16, 0, none⟩), .string s] w fun e w' => e = .returned (.bool false) ∧ w' = w := by
  have c := h.c_la
  have HV : Hid (F.la s = none) := hv
  clear hv
  go_enter Try.func30, Try.ntmps30
  go_wp2_with (at_lookup; refine wpList_look_none _ rfl _ _ 88 rfl 9 39 Try.underlying9 Try.underlying88 _ (zero39 _) (B + 8) n F.la rfl h.la s rfl hs HV.out ?_)
  go_ret
  exact ⟨rfl, rfl⟩

set_option maxHeartbeats 800000 in
theorem zzAfresh_some (w : World) (B n : Nat) (F : NF) (h : NI w B n F) (s : ByteArray) (hs : s.size ≤ maxLen) (v : Int) (hv : F.af s = some (.int .u64 v)) :
    Calls Try.prog 31 #[.pointer (some ⟨B + 16, 0, none⟩), .string s] w fun e w' => e = .returned (.tuple #[.int .u64 v, .bool true]) ∧ w' = w := by
  have c := h.c_af
  have HV : Hid (F.af s = some (.int .u64 v)) := hv
  clear hv
  go_enter Try.func31, Try.ntmps31
  go_wp2_with (at_lookup; refine wpList_look_some _ rfl _ _ 88 rfl 9 39 Try.underlying9 Try.underlying88 _ (zero39 _) (B + 9) n F.af rfl h.af s rfl hs _ HV.out ?_)
  go_ret2
  exact ⟨rfl, rfl⟩

set_option maxHeartbeats 800000 in
theorem joined (w : World) (B n : Nat) (F : NF) (h : NI w B n F) (s : ByteArray) (hs : s.size ≤ maxLen) (hn : n ≤ 1000000) :
    Calls Try.prog 44 #[.pointer (some ⟨B + 16, 0, none⟩), .string s] w fun e w' => e = .returned (.tuple #[]) ∧ NI w' B (n + 1) { F with hr := putF F.hr s (.int .i64 (-9223372036854775808)) } ∧ w.grownBy w' (some (B + 15)) := by
  have c := h.c_hr
  go_enter Try.func44, Try.ntmps44
  go_wp2_with (at_mapUpdate; refine wpList_put _ rfl _ _ _ 91 rfl 9 72 Try.underlying9 Try.underlying91 (B + 15) n F.hr rfl h.hr (by unfold maxLen; omega) s rfl hs _ rfl ?_; intro w1 hm1 hg1)
  go_end0
  exact ⟨rfl, h.w_hr hm1 hg1 (by omega), hg1⟩

set_option maxRecDepth 100000 in
set_option maxHeartbeats 800000 in
theorem nextVersion (w : World) (B n : Nat) (F : NF) (h : NI w B n F) (hv : F.re SELF = some (REC SELF 1 1 NIL)) :
    Calls Try.prog 51 #[.pointer (some ⟨B + 16, 0, none⟩)] w fun e w' => e = .returned (.int .u64 2) ∧ Sm w w' := by
  have c1 := h.c_re
  have c2 := h.c_id
  have hl : ∀ q, (Instr.lookup 86 (.map (some (B + 3))) (.string ⟨#[115, 101, 108, 102]⟩) false).run Try.prog (w.drewN q) = .ok (REC SELF 1 1 NIL) (w.drewN q) := fun q =>
    (MapF.look_some (P := Try.prog) (k := 9) (t := 86) (e := 83) (w := w.drewN q) (h.same (Sm.drewN w q)).re Try.underlying9 Try.underlying86 (zero83 _) (s := SELF) (by decide) hv).2
  have hf : ∀ w, (Instr.field 83 (REC SELF 1 1 NIL) 2).run Try.prog w = .ok (.int .u64 1) w := fun w => by kernel_rfl
  go_enter Try.func51, Try.ntmps51
  go_wp2_with fail
  go_quiet (fail)
  go_wp2
  go_ret
  exact ⟨rfl, Sm.drewN _ _⟩
end Go.Proofs.Qxb6003797a
