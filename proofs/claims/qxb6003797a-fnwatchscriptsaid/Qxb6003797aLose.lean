import Derived.Test.Qxb6003797aRange
namespace Go.Proofs.Qxb6003797a
open Go.RowKit

abbrev NB := ByteArray → Option (Int × Bool)
/-- The neighbours, of which those that are no longer to come have turned. -/
def GL (N : NB) (u : Int × Bool → Int × Bool) (L : ByteArray → Bool) : ByteArray → Option Value := fun s => ((if L s then N s else (N s).map u).map hv)

theorem GL_start (N : NB) (u : Int × Bool → Int × Bool) (g : ByteArray → Option Value) (hg : g = fun s => (N s).map hv) : g = GL N u (fun s => (g s).isSome) := by
  subst hg
  funext s
  unfold GL
  cases e : N s <;> simp [e]
theorem GL_at {N : NB} {u : Int × Bool → Int × Bool} {L : ByteArray → Bool} {s : ByteArray} {v : Value} (hL : L s = true) (hv' : GL N u L s = some v) : ∃ x, N s = some x ∧ v = hv x := by
  unfold GL at hv'
  rw [if_pos hL] at hv'
  obtain ⟨x, h1, h2⟩ := Option.map_eq_some_iff.1 hv'
  exact ⟨x, h1, h2.symm⟩
theorem GL_step {N : NB} {u : Int × Bool → Int × Bool} {L : ByteArray → Bool} {s : ByteArray} {x : Int × Bool} (hx : N s = some x) : putF (GL N u L) s (hv (u x)) = GL N u (fun z => L z && !decide (z = s)) := by
  funext z
  by_cases e : z = s
  · subst e
    rw [putF_same]
    simp [GL, hx]
  · rw [putF_other _ _ e]
    simp [GL, e]
theorem GL_end {N : NB} {u : Int × Bool → Int × Bool} {L : ByteArray → Bool} (hN : ∀ s, N s ≠ none → s.size ≤ maxLen) (hL : ∀ s : ByteArray, s.size ≤ maxLen → L s = false) : GL N u L = fun s => ((N s).map u).map hv := by
  funext s
  unfold GL
  cases e : N s with
  | none => simp
  | some x => rw [hL s (hN s (by simp [e]))]; simp

set_option maxHeartbeats 800000 in
/-- joined, of a name that the node has heard of, while what it has heard of is ranged over. -/
theorem joinedR (w : World) (B n r : Nat) (F : NF) (L : ByteArray → Bool) (cnt : Nat) (h : NI w B n F) (hR : MapR w (B + 15) r n F.hr L cnt) (s : ByteArray) (hs : s.size ≤ maxLen) (hf : F.hr s ≠ none) (hn : n ≤ 50000) :
    Calls Try.prog 44 #[.pointer (some ⟨B + 16, 0, none⟩), .string s] w fun e w' => e = .returned (.tuple #[]) ∧ MapR w' (B + 15) r n (putF F.hr s (.int .i64 (-9223372036854775808))) L cnt ∧ NI w' B n { F with hr := putF F.hr s (.int .i64 (-9223372036854775808)) } ∧ w.grownBy w' (some (B + 15)) := by
  have c := h.c_hr
  have HF : Hid (F.hr s ≠ none) := hf
  clear hf
  go_enter Try.func44, Try.ntmps44
  go_wp2_with (at_mapUpdate; refine wpList_putR _ rfl _ _ _ 91 rfl 72 Try.underlying91 (B + 15) r n F.hr L cnt rfl hR (by unfold maxLen; omega) s rfl hs HF.out _ rfl ?_; intro w1 hm1 hg1)
  go_end0
  exact ⟨rfl, hm1, h.w_hr hm1.mapF hg1 (Nat.le_refl _), hg1⟩

/-- What LoseLinks leaves. -/
def LLPost (w : World) (B n : Nat) (F : NF) (N : NB) (e : Ending) (w' : World) : Prop :=
  e = .returned (.tuple #[]) ∧ ∃ f', NI w' B n { F with nb := fun s => ((N s).map fun x => ((0 : Int), x.2)).map hv, la := noF, hr := f' } ∧ Fr w w' [some (B + 16), some (B + 1), some (B + 8), some (B + 15)]

set_option maxRecDepth 100000 in
set_option maxHeartbeats 3200000 in
theorem loseLinks (w : World) (B n : Nat) (F : NF) (N : NB) (h : NI w B n F) (hN : F.nb = fun s => (N s).map hv) (hNs : ∀ s, N s ≠ none → s.size ≤ maxLen) (hn : n ≤ 50000) :
    Calls Try.prog 26 #[.pointer (some ⟨B + 16, 0, none⟩)] w (LLPost w B n F N) := by
  have hlt := h.lt
  have z14 := h.fz 14
  obtain ⟨u14, d14⟩ := h.there 14 (by omega)
  have h1 := h.set 14 (.bool true) (by decide)
  have f1 : Fr w (w.setCell ⟨B + 16, 14, none⟩ (.bool true)) [some (B + 16)] := Fr.setCell _ _ _
  have c1 := h1.c_nb
  go_enter Try.func26, Try.ntmps26
  go_wp2_with (at_range; refine wpList_rangeF _ rfl _ 84 rfl 96 Try.underlying84 (B + 1) n F.nb rfl h1.nb ?_; intro w2 cnt2 hr2 hg2 hs2)
  have e0 : (w.setCell ⟨B + 16, 14, none⟩ (.bool true)).heap.size = w.heap.size := by simp
  rw [e0] at hr2 hs2
  have f2 : Fr w w2 [some (B + 16), some (B + 1), some (B + 8), some (B + 15)] := ((f1.mono (by simp)).trans (Fr.of_grown (R := []) hg2 (.inr rfl)) (by simp))
  have n2 : NI w2 B n F := h1.keep (Fr.of_grown (R := []) hg2 (.inr rfl)) (by simp)
  obtain ⟨L0, hL0⟩ : ∃ L0, L0 = (fun s => (F.nb s).isSome) := ⟨_, rfl⟩
  rw [← hL0] at hr2
  have hG : F.nb = GL N (fun x => ((0 : Int), x.2)) L0 := by rw [hL0]; exact GL_start _ _ _ hN
  rw [hG] at hr2
  have hF0 : F = { F with nb := GL N (fun x => ((0 : Int), x.2)) L0 } := by rw [← hG]
  rw [hF0] at n2
  clear hF0 hG hL0
  clear h1 f1 c1 hg2 z14 d14
  go_frame
  rw [e0]
  go_loopw [2] (fun _ wr => ∃ L cnt, MapR wr (B + 1) w.heap.size n (GL N (fun x => ((0 : Int), x.2)) L) L cnt ∧ NI wr B n { F with nb := GL N (fun x => ((0 : Int), x.2)) L } ∧ Fr w wr [some (B + 16), some (B + 1), some (B + 8), some (B + 15)]) (fun _ wr => wr.rangeLeft (B + 1) w.heap.size)
  case atStart => exact ⟨L0, cnt2, hr2, n2, f2⟩
  case round =>
    obtain ⟨L, cnt, hR, hI, hF⟩ := hrel
    have c10 := hI.c_la
    obtain ⟨w4, hclr, hm4, hg4⟩ := MapF.clear (t := 88) (e := 39) hI.la Try.underlying88 0
    have n4 := hI.w_la hm4 hg4 (Nat.le_refl _)
    have c64 := n4.c_hr
    go_wp2_with (first
      | (at_next; refine wpList_nextF _ rfl _ rfl (B + 1) w.heap.size n _ L cnt rfl hR (fun hl0 => ?_) (fun s v w3 cnt3 hs hLs hfs hR3 hlt3 hg3 hs3 hen => ?_); rotate_left; clear c10 hs3; obtain ⟨x, hx, rfl⟩ := GL_at hLs hfs; unfold hv at hen; unfold hv; rotate_left)
      | (at_range; refine wpList_rangeF _ rfl _ 91 rfl 72 Try.underlying91 (B + 15) n F.hr rfl n4.hr ?_; intro w5 cnt5 hr5 hg5 hs5))
    · have hG : GL N (fun x => ((0 : Int), x.2)) L = fun s => ((N s).map fun x => ((0 : Int), x.2)).map hv := GL_end hNs hl0
      rw [hG] at n4
      have n5 := n4.keep (Fr.of_grown (R := []) hg5 (.inr rfl)) (by simp)
      have f5 : Fr w w5 [some (B + 16), some (B + 1), some (B + 8), some (B + 15)] := (hF.trans (Fr.of_grown (R := [some (B + 8)]) hg4 (.inl (by simp))) (fun k _ hm => by simp at hm ⊢; omega)).trans (Fr.of_grown (R := []) hg5 (.inr rfl)) (by simp)
      have hge : w.heap.size ≤ w4.heap.size := Nat.le_trans hF.size hg4.size
      clear hR hI hG hclr hm4 hg4 n4 c64 c10 hr2 n2 f2 hF
      (try go_frame)
      go_loopw [4] (fun _ wr => ∃ L cnt f', MapR wr (B + 15) w4.heap.size n f' L cnt ∧ NI wr B n { F with nb := fun s => ((N s).map fun x => ((0 : Int), x.2)).map hv, la := noF, hr := f' } ∧ Fr w wr [some (B + 16), some (B + 1), some (B + 8), some (B + 15)]) (fun _ wr => wr.rangeLeft (B + 15) w4.heap.size)
      case atStart => exact ⟨_, cnt5, F.hr, hr5, n5, f5⟩
      case round =>
        obtain ⟨L2, cnt6, f', hR, hI, hF⟩ := hrel
        have z63 := hI.fz 63
        obtain ⟨u63, d63⟩ := hI.there 63 (by omega)
        go_wp2_with (first
          | (at_next; refine wpList_nextF _ rfl _ rfl (B + 15) w4.heap.size n _ L2 cnt6 rfl hR (fun hl1 => ?_) (fun s v w3 cnt3 hs hLs hfs hR3 hlt3 hg3 hs3 hen => ?_); rotate_left; clear hs3; rotate_left))
        · go_end0
          exact ⟨rfl, f', hI.set 63 (.bool true) (by decide), hF.trans (Fr.setCell _ _ _) (fun k _ hm => by simp at hm ⊢; omega)⟩
        · have hI3 := hI.keep (Fr.of_grown (R := [some w4.heap.size]) hg3 (.inl (by simp))) (by intro k hk1 hk2; simp; omega)
          have hF3 := hF.trans (Fr.of_grown (R := [some w4.heap.size]) hg3 (.inl (by simp))) (fun k hk hm => by simp at hm; omega)
          refine (joinedR w3 B n w4.heap.size _ _ cnt3 hI3 hR3 s hs (by show f' s ≠ none; rw [hfs]; simp) hn).mono ?_
          rintro e w6 ⟨rfl, hR6, n6, hg6⟩
          go_wp2
          go_roundw
          case rel => exact ⟨_, cnt3, _, hR6, n6, hF3.trans (Fr.of_grown (R := [some (B + 15)]) hg6 (.inl (by simp))) (fun k _ hm => by simp at hm ⊢; omega)⟩
          case measure => rw [hR6.left_eq, hR.left_eq]; exact hlt3
    · have hI3 := hI.keep (Fr.of_grown (R := [some w.heap.size]) hg3 (.inl (by simp))) (by intro k hk1 hk2; simp; omega)
      have hF3 := hF.trans (Fr.of_grown (R := [some w.heap.size]) hg3 (.inl (by simp))) (fun k hk hm => by simp at hm; omega)
      obtain ⟨w6, hrun, hR6, hg6⟩ := MapR.put (w := (w3.alloc (.cells #[.int .i64 x.1, .int .u64 0, .int .u64 0, .bool x.2] 96)).drew) (hR3.alloc _) Try.underlying84 (by unfold maxLen; omega) hs (by rw [hfs]; simp) (.agg #[.int .i64 0, .int .u64 0, .int .u64 0, .bool x.2])
      have c1 := (hI3.alloc (.cells #[.int .i64 x.1, .int .u64 0, .int .u64 0, .bool x.2] 96)).c_nb
      have hR7 : MapR w6 (B + 1) w.heap.size n (GL N (fun x => ((0 : Int), x.2)) (fun z => L z && !decide (z = s))) (fun z => L z && !decide (z = s)) cnt3 := by
        rw [← GL_step (u := fun x => ((0 : Int), x.2)) hx]
        exact hR6
      have n7 := (hI3.alloc (.cells #[.int .i64 x.1, .int .u64 0, .int .u64 0, .bool x.2] 96)).drew.w_nb hR7.mapF hg6 (Nat.le_refl _)
      have f7 : Fr w w6 [some (B + 16), some (B + 1), some (B + 8), some (B + 15)] := (hF3.trans (Fr.alloc _ _) (by simp)).trans (Fr.of_grown (R := [some (B + 1)]) hg6 (.inl (by simp))).undrew (fun k _ hm => by simp at hm ⊢; omega)
      clear n4 hclr hm4 hg4 c64
      go_region
      go_wp2
      go_roundw
      case rel => exact ⟨_, cnt3, hR7, n7, f7⟩
      case measure => rw [hR7.left_eq, hR.left_eq]; exact hlt3
end Go.Proofs.Qxb6003797a
