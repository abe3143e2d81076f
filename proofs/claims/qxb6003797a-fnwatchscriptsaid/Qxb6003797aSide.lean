import Derived.Test.Qxb6003797aEnv
namespace Go.Proofs.Qxb6003797a
open Go.RowKit

theorem picked_mem (L : List ByteArray) (m : Int) (sh : Nat) {s : ByteArray} : ∀ k, s ∈ picked L m sh k → s ∈ L
  | 0, h => by simp [picked] at h
  | k + 1, h => by
    rcases List.mem_append.1 h with h | h
    · exact picked_mem L m sh k h
    · split at h
      · cases e : L[k]? with
        | none => rw [e] at h; simp at h
        | some x =>
          rw [e] at h
          simp at h
          rw [h]
          exact List.mem_of_getElem? e
      · simp at h

theorem own_ss {w : World} {base : Nat} {a : Option Addr} {c : Nat} {M : List ByteArray} (h : w.ownsRow base 9 1 (.slice a M.length c) M.length (M.map Value.string)) : SS w a c M := by
  rcases h.2 with ⟨h', h0⟩ | ⟨g, cap, cur, h', hb, hg, -, -, -, ht⟩
  · injection h' with _ _ e3
    exact .inl ⟨List.length_eq_zero_iff.1 h0, fun _ => e3⟩
  · injection h' with e1 e2 e3
    subst e1
    by_cases h0 : M.length = 0
    · exact .inl ⟨List.length_eq_zero_iff.1 h0, fun e => by cases e⟩
    · refine .inr ⟨g, 0, rfl, lt_of_block hg, by omega, fun j hj => ?_⟩
      rw [Nat.zero_add, cell_of_row _ _ _ _ _ _ hg]
      have : (cur.toList.take (M.length * 1))[j]? = some (.string M[j]) := by rw [ht]; simp [hj]
      rw [List.getElem?_take_of_lt (by omega), Array.getElem?_toList] at this
      exact this

theorem own_far {w : World} {base : Nat} {a : Option Addr} {n c : Nat} {xs : List Value} (h : w.ownsRow base 9 1 (.slice a n c) n xs) : ∀ b off, a = some ⟨b, off, none⟩ → base ≤ b := fun b off e => own_baseV h b (by rw [e]; rfl)

section
variable (S : SIw) (now : Int) (N : NBw) (P Q R : List ByteArray) (s : ByteArray)

theorem carry_w (h : ((N s).isSome || (S s).isSome) = true) : runN S now N (P ++ Q) s = N s ∧ (runS (runN S now N (P ++ Q)) now S R s).isSome = (S s).isSome := by
  have e := runN_watched S now s (P ++ Q) N h
  exact ⟨e, by rw [runS_watched _ now s R S (by rw [e]; exact h)]⟩
theorem carry_n (h : ((N s).isSome || (S s).isSome) = false) (hm : s ∈ P ∨ s ∈ Q) : runN S now N (P ++ Q) s = some (now, true) ∧ (runS (runN S now N (P ++ Q)) now S R s).isSome = false := by
  have e := runN_in S now s (P ++ Q) N h (List.mem_append.2 hm)
  have h2 : (S s).isSome = false := by
    cases e2 : (S s).isSome
    · rfl
    · rw [e2] at h; simp at h
  exact ⟨e, by rw [runS_watched _ now s R S (by rw [e]; rfl)]; exact h2⟩
theorem carry_s (h : ((N s).isSome || (S s).isSome) = false) (hp : s ∉ P) (hq : s ∉ Q) (hr : s ∈ R) : runN S now N (P ++ Q) s = N s ∧ (runS (runN S now N (P ++ Q)) now S R s).isSome = true := by
  have e := runN_out S now s (P ++ Q) N (fun hm => (List.mem_append.1 hm).elim hp hq)
  exact ⟨e, by rw [runS_in _ now s R S (by rw [e]; exact h) hr]; rfl⟩
theorem carry_o (hp : s ∉ P) (hq : s ∉ Q) (hr : s ∉ R) : runN S now N (P ++ Q) s = N s ∧ (runS (runN S now N (P ++ Q)) now S R s).isSome = (S s).isSome := by
  have e := runN_out S now s (P ++ Q) N (fun hm => (List.mem_append.1 hm).elim hp hq)
  exact ⟨e, by rw [runS_out _ now s R S hr]⟩
end

theorem not_named {L : List ByteArray} {m : Int} {sh : Nat} {s : ByteArray} (h : named L m sh s = false) : s ∉ picked L m sh L.length := fun hm => by
  rw [named_iff.2 hm] at h
  cases h

theorem and_seven (x : Int) (h0 : 0 ≤ x) (h1 : x < 4294967296) : bits .and .u32 x 7 = x % 8 := by
  rw [u32_and _ _ h0 h1 (by decide) (by decide)]
  obtain ⟨a, rfl⟩ := Int.eq_ofNat_of_zero_le h0
  have : ((a : Int).toNat &&& (7 : Int).toNat) = a % 8 := by
    show a &&& 7 = a % 8
    exact Nat.and_two_pow_sub_one_eq_mod a 3
  rw [this]
  omega

/-- A block that has just been made and stored into: nothing else has turned. -/
theorem made_fr {w w1 : World} {o : Obj} (hg : (w.alloc o).grownBy w1 (some w.heap.size)) : Fr w w1 [] :=
  (Fr.alloc w o).trans (Fr.of_grown (R := [some w.heap.size]) hg (.inl (by simp))) (fun k hk hm => by simp at hm; omega)

/-- The snapshot's silence is struck. -/
theorem hush {w : World} {b : Nat} {x : Option (Int × Bool)} {y : Bool} (h : w.heap[b]? = some (.cells (snapC x y) 47 (0, 0))) : (w.setCell ⟨b, 5, none⟩ (.bool false)).heap[b]? = some (.cells (snapC x false) 47 (0, 0)) := by
  rw [heap_setCell_same w b 5 (snapC x y) 47 (.bool false) h]
  rfl
end Go.Proofs.Qxb6003797a
