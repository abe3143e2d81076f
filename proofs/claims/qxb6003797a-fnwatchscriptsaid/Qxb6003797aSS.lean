import Derived.Test.Qxb6003797aNewNode
import Derived.Deep.RegionHeld3
namespace Go.Proofs.Qxb6003797a
open Go.RowKit

/-- A slice of strings in memory: its address a, its capacity c, its strings L. -/
def SS (w : World) (a : Option Addr) (c : Nat) (L : List ByteArray) : Prop :=
  (L = [] ∧ (a = none → c = 0)) ∨ ∃ b off, a = some ⟨b, off, none⟩ ∧ b < w.heap.size ∧ 0 < L.length ∧ ∀ j (h : j < L.length), w.cell? ⟨b, off + j, none⟩ = some (.string L[j])

theorem SS.keep {w w1 : World} {a : Option Addr} {c : Nat} {L : List ByteArray} {R : List (Option Nat)} (h : SS w a c L) (hf : Fr w w1 R) (hR : ∀ b off, a = some ⟨b, off, none⟩ → some b ∉ R) : SS w1 a c L := by
  rcases h with h | ⟨b, off, e, hb, h0, hc⟩
  · exact .inl h
  · refine .inr ⟨b, off, e, Nat.lt_of_lt_of_le hb hf.size, h0, fun j hj => ?_⟩
    rw [World.cell?_of_block (w := w) (w' := w1) (a := ⟨b, off + j, none⟩) (hf.block b hb (hR b off e))]
    exact hc j hj

theorem SS.below {w w1 : World} {a : Option Addr} {c : Nat} {L : List ByteArray} {B : Nat} (h : SS w a c L) (hf : Below B w w1) (hB : ∀ b off, a = some ⟨b, off, none⟩ → b < B) : SS w1 a c L := by
  rcases h with h | ⟨b, off, e, hb, h0, hc⟩
  · exact .inl h
  · refine .inr ⟨b, off, e, Nat.lt_of_lt_of_le hb hf.size, h0, fun j hj => ?_⟩
    rw [hf.cell (p := ⟨b, off + j, none⟩) (hB b off e)]
    exact hc j hj

theorem SS.at {w : World} {a : Option Addr} {c : Nat} {L : List ByteArray} (h : SS w a c L) (hL : 0 < L.length) : ∃ b off, a = some ⟨b, off, none⟩ ∧ b < w.heap.size ∧ ∀ j (h : j < L.length), w.cell? ⟨b, off + j, none⟩ = some (.string L[j]) := by
  rcases h with ⟨rfl, _⟩ | ⟨b, off, e, hb, _, hc⟩
  · simp at hL
  · exact ⟨b, off, e, hb, hc⟩

theorem SS.nil {w : World} {a : Option Addr} {c : Nat} {L : List ByteArray} (h : SS w a c L) (ha : a = none) : L = [] ∧ c = 0 := by
  rcases h with ⟨h1, h2⟩ | ⟨b, off, e, _⟩
  · exact ⟨h1, h2 ha⟩
  · rw [ha] at e; cases e

theorem strBytes_ss (w : World) (a : Option Addr) (c : Nat) (L : List ByteArray) (h : SS w a c L) (hL : L.length + tot L ≤ 1048576) :
    Calls Try.prog 8 #[.slice a L.length c] w fun e w' => e = .returned (.int .i64 (16 * L.length + tot L : Nat)) ∧ w' = w := by
  rcases h with ⟨rfl, _⟩ | ⟨b, off, rfl, hb, h0, hc⟩
  · exact strBytes_none a c w
  · exact strBytes_some b off c L w hL hc

/-- What a clone leaves: a slice in new memory, nil where the old one was. -/
def ClonePost (w : World) (a : Option Addr) (L : List ByteArray) (e : Ending) (w' : World) : Prop :=
  ∃ a', e = .returned (.slice a' L.length L.length) ∧ a'.isNone = a.isNone ∧ (∀ b off, a' = some ⟨b, off, none⟩ → b = w.heap.size) ∧ SS w' a' L.length L ∧ Below w.heap.size w w' ∧ (0 < L.length → w'.ownsRow w.heap.size 9 1 (.slice a' L.length L.length) L.length (L.map Value.string))

theorem clone_ss (w : World) (a : Option Addr) (c : Nat) (L : List ByteArray) (h : SS w a c L) (hL : L.length ≤ 1048576) :
    Calls Try.prog 9 #[.slice a L.length c] w (ClonePost w a L) := by
  rcases h with ⟨rfl, hn⟩ | ⟨b, off, rfl, hb, h0, hc⟩
  · cases a with
    | none => rw [hn rfl]; exact (clone_nil w).mono fun e w' ⟨h, h'⟩ => ⟨none, h, rfl, by simp, .inl ⟨rfl, fun _ => rfl⟩, by subst h'; exact Below.refl _ _, by simp⟩
    | some a => exact (clone_empty a c w).mono fun e w' ⟨h, h'⟩ => ⟨_, h, rfl, fun b off e => by cases e; rfl, .inl ⟨rfl, by simp⟩, h', by simp⟩
  · refine (clone_some b off c L w hL hb hc).mono fun e w' ⟨h, ho, hb⟩ => ⟨_, h, rfl, fun b off e => by cases e; rfl, .inr ⟨w.heap.size, 0, rfl, (ho.lt _ rfl).2, h0, fun j hj => ?_⟩, hb, fun _ => ho⟩
    rw [Nat.zero_add, ho.cellAt j (by omega)]
    simp [hj]

theorem Fr.undrew {w w1 : World} {R : List (Option Nat)} (h : Fr w.drew w1 R) : Fr w w1 R := ⟨h.os, h.tape, h.output, h.size, h.block⟩
theorem zero72 (w : World) : (zeroValue 72).run Try.prog w = .ok (.int .i64 0) w := by kernel_rfl

set_option maxRecDepth 100000 in
set_option maxHeartbeats 1600000 in
theorem heardOf (w : World) (B n : Nat) (F : NF) (h : NI w B n F) (a : Option Addr) (c : Nat) (L : List ByteArray) (hs : SS w a c L) (hsR : ∀ b off, a = some ⟨b, off, none⟩ → b ≠ B + 15 ∧ b ≠ B + 16) (hL : L.length ≤ 1000) (hn : n ≤ 100000) (hsz : ∀ s ∈ L, s.size ≤ maxLen) :
    Calls Try.prog 53 #[.pointer (some ⟨B + 16, 0, none⟩), .slice a L.length c] w fun e w' => e = .returned (.tuple #[]) ∧ ∃ f', NI w' B (n + L.length) { F with hr := f' } ∧ (∀ s, F.hr s ≠ none → f' s ≠ none) ∧ (∀ s ∈ L, f' s ≠ none) ∧ Fr w w' [some (B + 16), some (B + 15)] := by
  go_enter Try.func53, Try.ntmps53
  go_wp2
  go_loopw [10] (fun i wr => ∃ (k : Nat) (f' : ByteArray → Option Value), k ≤ L.length ∧ i = .int .i64 k ∧ NI wr B (n + k) { F with hr := f' } ∧ (∀ s, F.hr s ≠ none → f' s ≠ none) ∧ (∀ j (hj : j < L.length), j < k → f' L[j] ≠ none) ∧ Fr w wr [some (B + 16), some (B + 15)]) (fun i _ => L.length - (intOf i).toNat)
  case atStart => exact ⟨0, F.hr, Nat.zero_le _, rfl, h, fun _ h => h, fun j _ h => absurd h (by omega), Fr.refl _ _⟩
  case round =>
    obtain ⟨k, f', hk, rfl, hI, hold, hdone, hF⟩ := hrel
    by_cases hlt : k < L.length
    · obtain ⟨b, off, rfl, hbw, hc⟩ := hs.at (by omega)
      have hbR := hsR b off rfl
      have ck : wr.cell? ⟨b, off + k, none⟩ = some (.string L[k]) := by
        rw [World.cell?_of_block (w := w) (w' := wr) (a := ⟨b, off + k, none⟩) (hF.block b hbw (by simp; omega))]
        exact hc k hlt
      have hsk := hsz _ (List.getElem_mem hlt)
      have c64 := hI.c_hr
      have c28 := hI.c_inst
      clear hc hsR
      cases e1 : f' L[k] with
      | some v =>
        have HV : Hid (f' L[k] = some v) := e1
        clear e1
        go_wp2_with (at_lookup; refine wpList_look_some _ rfl _ _ 91 rfl 9 72 Try.underlying9 Try.underlying91 _ (zero72 _) (B + 15) _ f' rfl hI.hr L[k] rfl hsk v HV.out ?_)
        go_roundw
        case rel => exact ⟨k + 1, f', by omega, by go_num, hI.mono (by omega), hold, fun j hj hjk => by
          by_cases e : j = k
          · subst e; rw [HV.out]; simp
          · exact hdone j hj (by omega), hF⟩
        case measure => simp [intOf]; omega
      | none =>
        have HV : Hid (f' L[k] = none) := e1
        clear e1
        go_wp2_with (at_lookup; refine wpList_look_none _ rfl _ _ 91 rfl 9 72 Try.underlying9 Try.underlying91 _ (zero72 _) (B + 15) _ f' rfl hI.hr L[k] rfl hsk HV.out ?_)
        obtain ⟨w1, hrun, hm1, hg1⟩ := hI.drew.hr.update (P := Try.prog) (t := 91) (e := 72) Try.underlying9 Try.underlying91 (by unfold maxLen; omega) hsk (.int .i64 0)
        have hI1 := hI.drew.w_hr hm1 hg1 (by omega)
        have d28 := hI1.c_inst
        obtain ⟨u65, d65⟩ := hI1.there 65 (by omega)
        have f65 := hI1.fz 65
        have hF1 : Fr w (w1.setCell ⟨B + 16, 65, none⟩ (.int .i64 0)) [some (B + 16), some (B + 15)] :=
          (hF.trans (Fr.undrew (Fr.of_grown (R := [some (B + 16), some (B + 15)]) hg1 (.inl (by simp)))) (fun _ _ h => h)).trans ((Fr.setCell w1 ⟨B + 16, 65, none⟩ (.int .i64 0)).mono (R' := [some (B + 16), some (B + 15)]) (fun k h => by simp at h ⊢; exact .inl h)) (fun _ _ h => h)
        have hI2 := hI1.set 65 (.int .i64 0) (by decide)
        clear hI1 hm1 hg1 hF
        go_region
        go_wp2
        go_roundw
        case rel => exact ⟨k + 1, putF f' L[k] (.int .i64 0), by omega, by go_num, hI2, fun s hs' => by
          by_cases e : s = L[k]
          · subst e; rw [putF_same]; simp
          · rw [putF_other _ _ e]; exact hold s hs', fun j hj hjk => by
          by_cases e : L[j] = L[k]
          · rw [e, putF_same]; simp
          · rw [putF_other _ _ e]
            exact hdone j hj (by rcases Nat.lt_or_ge j k with h' | h'; exact h'; exact absurd (by congr 1; omega) e), hF1⟩
        case measure => simp [intOf]; omega
    · go_wp2
      go_end0
      exact ⟨rfl, f', hI.mono (by omega), hold, fun s hs' => by
        obtain ⟨j, hj, rfl⟩ := List.getElem_of_mem hs'
        exact hdone j hj (by omega), hF⟩
end Go.Proofs.Qxb6003797a
