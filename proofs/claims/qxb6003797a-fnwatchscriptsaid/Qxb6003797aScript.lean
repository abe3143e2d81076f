import Derived.Test.Qxb6003797aNeq
import Derived.Test.Qxb6003797aAfresh
import Derived.Test.Qxb6003797aReco2
namespace Go.Proofs.Qxb6003797a
open Go.RowKit

/-- The node between two steps of the script: neighbours N, silences S, none in both. -/
structure SC (w : World) (B n : Nat) (F : NF) (N : NBw) (S : SIw) : Prop where
  ni : NI w B n F
  ws : WS F N S
  re : F.re = F0.re
  ri : F.ri = noF
  pe : F.pe SELF ≠ none
  dis : ∀ s, N s ≠ none → S s = none
  sz : ∀ s, N s ≠ none → s.size ≤ maxLen

theorem SC.hre {w : World} {B n : Nat} {F : NF} {N : NBw} {S : SIw} (h : SC w B n F N S) : F.re SELF = some (REC SELF 1 1 NIL) := by
  rw [h.re]
  show putF noF SELF (REC SELF 1 1 NIL) SELF = _
  exact putF_same _ _ _
theorem SC.hrp {w : World} {B n : Nat} {F : NF} {N : NBw} {S : SIw} (h : SC w B n F N S) : ∀ s, F.re s ≠ none → F.pe s ≠ none := by
  intro s hs
  rw [h.re] at hs
  by_cases e : s = SELF
  · rw [e]; exact h.pe
  · exact absurd (by show putF noF SELF _ s = none; rw [putF_other _ _ e]; rfl) hs
theorem SC.keep {w w' : World} {B n : Nat} {F : NF} {N : NBw} {S : SIw} {R : List (Option Nat)} (h : SC w B n F N S) (hf : Fr w w' R) (hR : ∀ k, B ≤ k → k ≤ B + 16 → some k ∉ R) : SC w' B n F N S := ⟨h.ni.keep hf hR, h.ws, h.re, h.ri, h.pe, h.dis, h.sz⟩

/-- At the start. -/
theorem SC.start {w : World} {B : Nat} (h : NI w B 2 F0) : SC w B 2 F0 (fun _ => none) (fun _ => none) :=
  ⟨h, ⟨rfl, rfl⟩, rfl, rfl, by show putF noF SELF _ SELF ≠ none; rw [putF_same]; simp, fun _ h => absurd rfl h, fun _ h => absurd rfl h⟩

/-- LoseLinks, of the node between two steps. -/
theorem lose_sc (w : World) (B n : Nat) (F : NF) (N : NBw) (S : SIw) (h : SC w B n F N S) (hn : n ≤ 50000) :
    Calls Try.prog 26 #[.pointer (some ⟨B + 16, 0, none⟩)] w fun e w' => e = .returned (.tuple #[]) ∧ (∃ F', SC w' B n F' (fun s => (N s).map fun x => ((0 : Int), x.2)) S) ∧ Fr w w' [some (B + 16), some (B + 1), some (B + 8), some (B + 15)] :=
  (loseLinks w B n F N h.ni h.ws.nb h.sz hn).mono fun e w' ⟨he, f', hi, hf⟩ => ⟨he, ⟨_, hi, ⟨rfl, h.ws.si⟩, h.re, h.ri, h.pe, fun s hs => h.dis s (fun e => hs (by simp [e])), fun s hs => h.sz s (fun e => hs (by simp [e]))⟩, hf⟩

theorem reco_sc (w : World) (B n : Nat) (F : NF) (N : NBw) (S : SIw) (now : Int) (h : SC w B n F N S) (hn : n ≤ 50000) :
    Calls Try.prog 27 #[.pointer (some ⟨B + 16, 0, none⟩), .int .i64 now] w fun e w' => e = .returned (.tuple #[]) ∧ (∃ F', SC w' B n F' (fun s => (N s).map fun x => (now, x.2)) S) ∧ Fr w w' [some (B + 16), some (B + 1), some (B + 4)] :=
  (zzReconnect w B n F N now h.ni h.ws.nb h.sz h.hrp h.ri hn).mono fun e w' ⟨he, f', hi, hp, hf⟩ => ⟨he, ⟨_, hi, ⟨rfl, h.ws.si⟩, h.re, h.ri, hp _ h.pe, fun s hs => h.dis s (fun e => hs (by simp [e])), fun s hs => h.sz s (fun e => hs (by simp [e]))⟩, hf⟩

theorem run_dis {N : NBw} {S : SIw} {now : Int} {M M3 : List ByteArray} (hd : ∀ s, N s ≠ none → S s = none) (s : ByteArray) (hs : runN S now N M s ≠ none) : runS (runN S now N M) now S M3 s = none := by
  have h1 : ((runN S now N M s).isSome || (S s).isSome) = true := by
    cases e : runN S now N M s with
    | none => exact absurd e hs
    | some x => rfl
  rw [runS_watched _ _ _ _ _ h1]
  cases e : S s with
  | none => rfl
  | some y =>
    have h2 : ((N s).isSome || (S s).isSome) = true := by rw [e]; simp
    rw [runN_watched S now s M N h2] at hs
    rw [hd s hs] at e
    cases e
theorem run_sz {N : NBw} {S : SIw} {now : Int} {M : List ByteArray} (hz : ∀ s, N s ≠ none → s.size ≤ maxLen) (hM : ∀ s ∈ M, s.size ≤ maxLen) (s : ByteArray) (hs : runN S now N M s ≠ none) : s.size ≤ maxLen := by
  by_cases hm : s ∈ M
  · exact hM s hm
  · rw [runN_out S now s M N hm] at hs
    exact hz s hs

theorem carry_sc (w : World) (B n : Nat) (F : NF) (N : NBw) (S : SIw) (now : Int) (h : SC w B n F N S) (hn : n ≤ 40000)
    (a1 : Option Addr) (c1 : Nat) (L1 : List ByteArray) (a2 : Option Addr) (c2 : Nat) (L2 : List ByteArray) (a3 : Option Addr) (c3 : Nat) (L3 : List ByteArray) (s1 : SS w a1 c1 L1) (s2 : SS w a2 c2 L2) (s3 : SS w a3 c3 L3) (l1 : L1.length ≤ 8) (l2 : L2.length ≤ 8) (l3 : L3.length ≤ 8)
    (r3 : ∀ b off, a3 = some ⟨b, off, none⟩ → b < B ∨ B + 16 < b) (z1 : ∀ s ∈ L1, s.size ≤ maxLen) (z2 : ∀ s ∈ L2, s.size ≤ maxLen) (z3 : ∀ s ∈ L3, s.size ≤ maxLen) :
    Calls Try.prog 23 #[.pointer (some ⟨B + 16, 0, none⟩), .int .i64 now, .slice a1 L1.length c1, .slice a2 L2.length c2, .slice a3 L3.length c3] w fun e w' => e = .returned (.tuple #[]) ∧ (∃ F', SC w' B (n + 100) F' (runN S now N (L1 ++ L2)) (runS (runN S now N (L1 ++ L2)) now S L3)) ∧ Fr w w' [some (B + 16), some (B + 1), some (B + 2), some (B + 15)] :=
  (zzCarryOn w B n F N S now h.ni h.ws h.hre hn a1 c1 L1 a2 c2 L2 a3 c3 L3 s1 s2 s3 l1 l2 l3 r3 z1 z2 z3).mono fun e w' ⟨he, f', hi, hf⟩ =>
    ⟨he, ⟨_, hi.mono (by rw [List.length_append]; omega), ⟨rfl, rfl⟩, h.re, h.ri, h.pe, fun s hs => run_dis h.dis s hs, fun s hs => run_sz h.sz (fun s hs => by
      rcases List.mem_append.1 hs with hs | hs
      · exact z1 s hs
      · exact z2 s hs) s hs⟩, hf⟩

/-- S without id. -/
def delS (S : SIw) (id : ByteArray) : SIw := fun s => if s = id then none else S s

theorem hear_sc (w : World) (B n : Nat) (F : NF) (N : NBw) (S : SIw) (h : SC w B n F N S) (id : ByteArray) (hs : id.size ≤ maxLen) (since count : Int) (h0 : 0 ≤ count) (h1 : count ≤ 18446744073709551615) (hn : n ≤ 50000) :
    Calls Try.prog 28 #[.pointer (some ⟨B + 16, 0, none⟩), .string id, .int .u64 since, .int .u64 count] w fun e w' => e = .returned (.tuple #[.int .u64 2, .int .u64 count]) ∧ (∃ F', SC w' B (n + 100) F' N (delS S id) ∧ F'.la id = none ∧ F'.af id = some (.int .u64 (if count = 18446744073709551615 then count else count + 1))) ∧
      Fr w w' [some (B + 16), some (B + 15), some (B + 8), some (B + 2), some (B + 12), some (B + 9)] :=
  (zzHearAfresh w B n F h.ni h.hre id hs since count h0 h1 hn).mono fun e w' ⟨he, f', g', hi, hg, hf⟩ =>
    ⟨he, ⟨_, ⟨hi.mono (by omega), ⟨h.ws.nb, by
      show delF F.si id = _
      rw [h.ws.si]
      funext z
      by_cases e : z = id <;> simp [delF, delS, e]⟩, h.re, h.ri, h.pe, fun s hs => by
        unfold delS
        split
        · rfl
        · exact h.dis s hs, h.sz⟩, delF_same _ _, hg⟩, hf⟩
end Go.Proofs.Qxb6003797a
