import Derived.Test.Qxb6003797aCarry2
namespace Go.Proofs.Qxb6003797a

theorem putN_same {α : Type} (N : ByteArray → Option α) (s : ByteArray) (x : α) : putN N s x s = some x := by simp [putN]
theorem putN_other {α : Type} (N : ByteArray → Option α) {s s' : ByteArray} (x : α) (h : s' ≠ s) : putN N s x s' = N s' := by simp [putN, h]

theorem stepN_other (S : SIw) (now : Int) (N : NBw) {x s : ByteArray} (h : s ≠ x) : stepN S now N x s = N s := by
  unfold stepN
  split
  · rfl
  · exact putN_other _ _ h
theorem stepN_watched (S : SIw) (now : Int) (N : NBw) {x s : ByteArray} (h : ((N s).isSome || (S s).isSome) = true) : stepN S now N x s = N s := by
  by_cases e : s = x
  · subst e
    unfold stepN
    rw [if_pos h]
  · exact stepN_other S now N e
theorem runN_watched (S : SIw) (now : Int) (s : ByteArray) : ∀ (M : List ByteArray) (N : NBw), ((N s).isSome || (S s).isSome) = true → runN S now N M s = N s
  | [], _, _ => rfl
  | x :: M, N, h => by
    have e := stepN_watched S now N (x := x) h
    have := runN_watched S now s M (stepN S now N x) (by rw [e]; exact h)
    rw [e] at this
    exact this
theorem runN_in (S : SIw) (now : Int) (s : ByteArray) : ∀ (M : List ByteArray) (N : NBw), ((N s).isSome || (S s).isSome) = false → s ∈ M → runN S now N M s = some (now, true)
  | [], _, _, hm => by simp at hm
  | x :: M, N, h, hm => by
    by_cases e : s = x
    · subst e
      have e1 : stepN S now N s = putN N s (now, true) := by unfold stepN; rw [h]; rfl
      have := runN_watched S now s M (stepN S now N s) (by rw [e1, putN_same]; rfl)
      rw [e1, putN_same] at this
      show runN S now (stepN S now N s) M s = _
      rw [e1]
      exact this
    · have e1 := stepN_other S now N e
      exact runN_in S now s M (stepN S now N x) (by rw [e1]; exact h) (by rcases List.mem_cons.1 hm with h' | h'; exact absurd h' e; exact h')
theorem runN_out (S : SIw) (now : Int) (s : ByteArray) : ∀ (M : List ByteArray) (N : NBw), s ∉ M → runN S now N M s = N s
  | [], _, _ => rfl
  | x :: M, N, hm => by
    have e : s ≠ x := fun e => hm (by simp [e])
    have := runN_out S now s M (stepN S now N x) (fun h => hm (List.mem_cons_of_mem _ h))
    rw [stepN_other S now N e] at this
    exact this

theorem stepS_other (N : NBw) (now : Int) (S : SIw) {x s : ByteArray} (h : s ≠ x) : stepS N now S x s = S s := by
  unfold stepS
  split
  · rfl
  · exact putN_other _ _ h
theorem stepS_watched (N : NBw) (now : Int) (S : SIw) {x s : ByteArray} (h : ((N s).isSome || (S s).isSome) = true) : stepS N now S x s = S s := by
  by_cases e : s = x
  · subst e
    unfold stepS
    rw [if_pos h]
  · exact stepS_other N now S e
theorem runS_watched (N : NBw) (now : Int) (s : ByteArray) : ∀ (M : List ByteArray) (S : SIw), ((N s).isSome || (S s).isSome) = true → runS N now S M s = S s
  | [], _, _ => rfl
  | x :: M, S, h => by
    have e := stepS_watched N now S (x := x) h
    have := runS_watched N now s M (stepS N now S x) (by rw [e]; exact h)
    rw [e] at this
    exact this
theorem runS_in (N : NBw) (now : Int) (s : ByteArray) : ∀ (M : List ByteArray) (S : SIw), ((N s).isSome || (S s).isSome) = false → s ∈ M → runS N now S M s = some (2, now)
  | [], _, _, hm => by simp at hm
  | x :: M, S, h, hm => by
    by_cases e : s = x
    · subst e
      have e1 : stepS N now S s = putN S s (2, now) := by unfold stepS; rw [h]; rfl
      have := runS_watched N now s M (stepS N now S s) (by rw [e1, putN_same]; simp)
      rw [e1, putN_same] at this
      show runS N now (stepS N now S s) M s = _
      rw [e1]
      exact this
    · have e1 := stepS_other N now S e
      exact runS_in N now s M (stepS N now S x) (by rw [e1]; exact h) (by rcases List.mem_cons.1 hm with h' | h'; exact absurd h' e; exact h')
theorem runS_out (N : NBw) (now : Int) (s : ByteArray) : ∀ (M : List ByteArray) (S : SIw), s ∉ M → runS N now S M s = S s
  | [], _, _ => rfl
  | x :: M, S, hm => by
    have e : s ≠ x := fun e => hm (by simp [e])
    have := runS_out N now s M (stepS N now S x) (fun h => hm (List.mem_cons_of_mem _ h))
    rw [stepS_other N now S e] at this
    exact this
end Go.Proofs.Qxb6003797a
