import Derived.Test.Qxb6003797aReco
namespace Go.Proofs.Qxb6003797a
open Go.RowKit

/-- What Reconnect leaves. -/
def RCPost (w : World) (B n : Nat) (F : NF) (N : NB) (now : Int) (e : Ending) (w' : World) : Prop :=
  e = .returned (.tuple #[]) ∧ ∃ f', NI w' B n { F with nb := fun s => ((N s).map fun x => (now, x.2)).map hv, pe := f' } ∧ (∀ s, F.pe s ≠ none → f' s ≠ none) ∧ Fr w w' [some (B + 16), some (B + 1), some (B + 4)]

set_option maxRecDepth 100000 in
set_option maxHeartbeats 3200000 in
theorem reconnect (w : World) (B n : Nat) (F : NF) (N : NB) (now : Int) (h : NI w B n F) (hN : F.nb = fun s => (N s).map hv) (hNs : ∀ s, N s ≠ none → s.size ≤ maxLen) (hrp : ∀ s, F.re s ≠ none → F.pe s ≠ none) (hri : F.ri = noF) (hn : n ≤ 50000) :
    Calls Try.prog 45 #[.pointer (some ⟨B + 16, 0, none⟩), .int .i64 now] w (RCPost w B n F N now) := by
  have hlt := h.lt
  have z14 := h.fz 14
  obtain ⟨u14, d14⟩ := h.there 14 (by omega)
  have h1 := h.set 14 (.bool false) (by decide)
  have f1 : Fr w (w.setCell ⟨B + 16, 14, none⟩ (.bool false)) [some (B + 16)] := Fr.setCell _ _ _
  have z15 := h1.fz 15
  obtain ⟨u15, d15⟩ := h1.there 15 (by omega)
  have h2 := h1.set 15 (.bool false) (by decide)
  have f2 := f1.trans (Fr.setCell (w.setCell ⟨B + 16, 14, none⟩ (.bool false)) ⟨B + 16, 15, none⟩ (.bool false)) (fun _ _ h => h)
  have z16 := h2.fz 16
  obtain ⟨u16, d16⟩ := h2.there 16 (by omega)
  have h3 := h2.set 16 (.map none) (by decide)
  have f3 := f2.trans (Fr.setCell ((w.setCell ⟨B + 16, 14, none⟩ (.bool false)).setCell ⟨B + 16, 15, none⟩ (.bool false)) ⟨B + 16, 16, none⟩ (.map none)) (fun _ _ h => h)
  have c1 := h3.c_nb
  have e0 : (((w.setCell ⟨B + 16, 14, none⟩ (.bool false)).setCell ⟨B + 16, 15, none⟩ (.bool false)).setCell ⟨B + 16, 16, none⟩ (.map none)).heap.size = w.heap.size := by simp
  go_enter Try.func45, Try.ntmps45
  go_wp2_with (at_range; refine wpList_rangeF _ rfl _ 84 rfl 96 Try.underlying84 (B + 1) n F.nb rfl h3.nb ?_; intro w2 cnt2 hr2 hg2 hs2)
  rw [e0] at hr2 hs2
  have f4 : Fr w w2 [some (B + 16), some (B + 1), some (B + 4)] := ((f3.mono (by simp)).trans (Fr.of_grown (R := []) hg2 (.inr rfl)) (by simp))
  have n2 : NI w2 B n F := h3.keep (Fr.of_grown (R := []) hg2 (.inr rfl)) (by simp)
  obtain ⟨L0, hL0⟩ : ∃ L0, L0 = (fun s => (F.nb s).isSome) := ⟨_, rfl⟩
  rw [← hL0] at hr2
  have hG : F.nb = GL N (fun x => (now, x.2)) L0 := by rw [hL0]; exact GL_start _ _ _ hN
  rw [hG] at hr2
  have hF0 : F = { F with nb := GL N (fun x => (now, x.2)) L0 } := by rw [← hG]
  rw [hF0] at n2
  clear hF0 hG hL0 h1 h2 h3 f1 f2 f3 c1 hg2 z14 d14 z15 d15 z16 d16
  (try go_frame)
  rw [e0]
  go_loopw [4] (fun _ wr => ∃ L cnt, MapR wr (B + 1) w.heap.size n (GL N (fun x => (now, x.2)) L) L cnt ∧ NI wr B n { F with nb := GL N (fun x => (now, x.2)) L } ∧ Fr w wr [some (B + 16), some (B + 1), some (B + 4)]) (fun _ wr => wr.rangeLeft (B + 1) w.heap.size)
  case atStart => exact ⟨L0, cnt2, hr2, n2, f4⟩
  case round =>
    obtain ⟨L, cnt, hR, hI, hF⟩ := hrel
    have z13 := hI.fz 13
    obtain ⟨u13, d13⟩ := hI.there 13 (by omega)
    go_wp2_with (at_next; refine wpList_nextF _ rfl _ rfl (B + 1) w.heap.size n _ L cnt rfl hR (fun hl0 => ?_) (fun s v w3 cnt3 hs hLs hfs hR3 hlt3 hg3 hs3 hen => ?_); rotate_left; clear z13 d13 hs3; obtain ⟨x, hx, rfl⟩ := GL_at hLs hfs; unfold hv at hen; unfold hv; rotate_left)
    · have hG : GL N (fun x => (now, x.2)) L = fun s => ((N s).map fun x => (now, x.2)).map hv := GL_end hNs hl0
      rw [hG] at hI
      refine (sendAll _ B n _ (hI.set 13 (.bool true) (by decide)) hrp hri hn).mono ?_
      rintro e w6 ⟨rfl, f', n6, hp6, f6⟩
      go_wp2
      go_end0
      exact ⟨rfl, f', n6, hp6, (hF.trans (Fr.setCell _ _ _) (fun k _ hm => by simp at hm ⊢; omega)).trans f6 (fun k _ hm => by simp at hm ⊢; omega)⟩
    · have hI3 := hI.keep (Fr.of_grown (R := [some w.heap.size]) hg3 (.inl (by simp))) (by intro k hk1 hk2; simp; omega)
      have hF3 := hF.trans (Fr.of_grown (R := [some w.heap.size]) hg3 (.inl (by simp))) (fun k hk hm => by simp at hm; omega)
      obtain ⟨w6, hrun, hR6, hg6⟩ := MapR.put (w := (w3.alloc (.cells #[.int .i64 x.1, .int .u64 0, .int .u64 0, .bool x.2] 96)).drew) (hR3.alloc _) Try.underlying84 (by unfold maxLen; omega) hs (by rw [hfs]; simp) (.agg #[.int .i64 now, .int .u64 0, .int .u64 0, .bool x.2])
      have c1 := (hI3.alloc (.cells #[.int .i64 x.1, .int .u64 0, .int .u64 0, .bool x.2] 96)).c_nb
      have hR7 : MapR w6 (B + 1) w.heap.size n (GL N (fun x => (now, x.2)) (fun z => L z && !decide (z = s))) (fun z => L z && !decide (z = s)) cnt3 := by
        rw [← GL_step (u := fun x => (now, x.2)) hx]
        exact hR6
      have n7 := (hI3.alloc (.cells #[.int .i64 x.1, .int .u64 0, .int .u64 0, .bool x.2] 96)).drew.w_nb hR7.mapF hg6 (Nat.le_refl _)
      have f7 : Fr w w6 [some (B + 16), some (B + 1), some (B + 4)] := (hF3.trans (Fr.alloc _ _) (by simp)).trans (Fr.of_grown (R := [some (B + 1)]) hg6 (.inl (by simp))).undrew (fun k _ hm => by simp at hm ⊢; omega)
      go_region
      go_wp2
      go_roundw
      case rel => exact ⟨_, cnt3, hR7, n7, f7⟩
      case measure => rw [hR7.left_eq, hR.left_eq]; exact hlt3

theorem zzReconnect (w : World) (B n : Nat) (F : NF) (N : NB) (now : Int) (h : NI w B n F) (hN : F.nb = fun s => (N s).map hv) (hNs : ∀ s, N s ≠ none → s.size ≤ maxLen) (hrp : ∀ s, F.re s ≠ none → F.pe s ≠ none) (hri : F.ri = noF) (hn : n ≤ 50000) :
    Calls Try.prog 27 #[.pointer (some ⟨B + 16, 0, none⟩), .int .i64 now] w (RCPost w B n F N now) := by
  go_enter Try.func27, Try.ntmps27
  go_wp2_with (go_at_call 45; refine (reconnect w B n F N now h hN hNs hrp hri hn).mono ?_; rintro e w' ⟨rfl, hp⟩)
  go_end0
  exact ⟨rfl, hp⟩
end Go.Proofs.Qxb6003797a
