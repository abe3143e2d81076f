import Derived.Test.Qxb6003797aPlain
import Derived.Laws.StructEq
namespace Go.Proofs.Qxb6003797a
open Go.RowKit

theorem u47 : Try.prog.underlying 47 = some (.struct (Try.prog.fieldsOf 47)) := by kernel_rfl
theorem st47 : Try.prog.stoodInHeld 47 = false := by kernel_rfl
theorem gu47 : Try.prog.eqGuardType Try.prog.depth 47 = false := by kernel_rfl
theorem fl47 : (Try.prog.fieldsOf 47).toList.map (fun f => (f.type, f.offset)) = [(2, 0), (39, 1), (39, 2), (4, 3), (4, 4), (4, 5)] := by kernel_rfl

theorem eq_self {P : Program} (d : Nat) (xs : Array Value) : ∀ (fs : List Field) (w : World), (∀ f ∈ fs, ∃ v, (∀ w, (part f.type xs f.offset).run P w = .ok v w) ∧ ∀ w, (Op.equalIn d f.type v v).run P w = .ok true w) → (Op.eqFields d xs xs fs).run P w = .ok true w
  | [], w, _ => by simp [Op.eqFields]
  | f :: fs, w, h => by
    obtain ⟨v, h1, h2⟩ := h f List.mem_cons_self
    have ih := eq_self d xs fs w (fun g hg => h g (List.mem_cons_of_mem _ hg))
    unfold Op.eqFields
    split
    · simp only [Sem.run_bind, h1, h2, Result.andThen_ok, Bool.not_true, Bool.false_eq_true, if_false]
      exact ih
    · exact ih

theorem neq47 (l : Int) (i o s : Bool) (w : World) : (binOp .neq 47 (.agg #[.int .i64 l, .int .u64 0, .int .u64 0, .bool i, .bool o, .bool s]) (.agg #[.int .i64 l, .int .u64 0, .int .u64 0, .bool i, .bool o, .bool s])).run Try.prog w = .ok (.bool false) w := by
  rw [run_neq_struct, run_equalIn_struct w 9999 47 _ _ u47 st47, eq_self]
  · rfl
  · intro f hf
    have hm : (f.type, f.offset) ∈ [((2 : Nat), (0 : Nat)), (39, 1), (39, 2), (4, 3), (4, 4), (4, 5)] := by
      rw [← fl47]
      exact List.mem_map.2 ⟨f, hf, rfl⟩
    simp only [List.mem_cons, Prod.mk.injEq, List.not_mem_nil, or_false] at hm
    rcases hm with ⟨h1, h2⟩ | ⟨h1, h2⟩ | ⟨h1, h2⟩ | ⟨h1, h2⟩ | ⟨h1, h2⟩ | ⟨h1, h2⟩ <;> rw [h1, h2]
    · exact ⟨.int .i64 l, fun w => by kernel_rfl, fun w => by rw [run_equalIn_int w 9998 2 .i64 .i64 l l Try.underlying2]; simp⟩
    · exact ⟨.int .u64 0, fun w => by kernel_rfl, fun w => by rw [run_equalIn_int w 9998 39 .u64 .u64 0 0 Try.underlying39]; simp⟩
    · exact ⟨.int .u64 0, fun w => by kernel_rfl, fun w => by rw [run_equalIn_int w 9998 39 .u64 .u64 0 0 Try.underlying39]; simp⟩
    · exact ⟨.bool i, fun w => by kernel_rfl, fun w => by rw [run_equalIn_bool' w 9998 4 i i Try.underlying4]; simp⟩
    · exact ⟨.bool o, fun w => by kernel_rfl, fun w => by rw [run_equalIn_bool' w 9998 4 o o Try.underlying4]; simp⟩
    · exact ⟨.bool s, fun w => by kernel_rfl, fun w => by rw [run_equalIn_bool' w 9998 4 s s Try.underlying4]; simp⟩
end Go.Proofs.Qxb6003797a
