import Derived.Maps.OwnSet
import Derived.Tactics
import Derived.Tactics2
import Derived.Below
namespace Go.Proofs.Qxb6003797a
open Go.RowKit Go.Maps

/-- An element reads as itself. -/
def heldElem (v : Value) : Option (DataW Value × List MemPlace) := some (.held v, [])
/-- What a string reads as, as a key. -/
def kOf (s : ByteArray) : Lit := .string s.data.toList

theorem kOf_ne {s s' : ByteArray} (h : s' ≠ s) : kOf s' ≠ kOf s := by
  intro e
  simp only [kOf, Lit.string.injEq] at e
  apply h
  cases s; cases s'
  simp at e
  simp [e]

theorem kOf_lit (s : ByteArray) : WideAt.IsKeyLit (kOf s) := trivial

/-- BLOCK b OF w IS A MAP OF AT MOST n ENTRIES, KEYED BY STRINGS, THAT HOLDS f s AT s. -/
def MapF (P : Program) (k : TypeId) (w : World) (b n : Nat) (f : ByteArray → Option Value) : Prop :=
  ∃ D : DataW Value, w.ownsMap P k heldElem b n D ∧ ∀ s : ByteArray, s.size ≤ maxLen → (f s = none → Maps.has D (kOf s) = false) ∧ (∀ v, f s = some v → Maps.has D (kOf s) = true ∧ ∀ z, D.atKey (kOf s) z = .held v)

/-- f, but v at s. -/
def putF (f : ByteArray → Option Value) (s : ByteArray) (v : Value) : ByteArray → Option Value := fun s' => if s' = s then some v else f s'
/-- f, but nothing at s. -/
def delF (f : ByteArray → Option Value) (s : ByteArray) : ByteArray → Option Value := fun s' => if s' = s then none else f s'

theorem putF_same (f : ByteArray → Option Value) (s : ByteArray) (v : Value) : putF f s v s = some v := by simp [putF]
theorem putF_other (f : ByteArray → Option Value) {s s' : ByteArray} (v : Value) (h : s' ≠ s) : putF f s v s' = f s' := by simp [putF, h]
theorem delF_same (f : ByteArray → Option Value) (s : ByteArray) : delF f s s = none := by simp [delF]
theorem delF_other (f : ByteArray → Option Value) {s s' : ByteArray} (h : s' ≠ s) : delF f s s' = f s' := by simp [delF, h]

section
variable {P : Program} {k t e : TypeId} {w : World} {b n : Nat} {f : ByteArray → Option Value}

theorem MapF.lt (h : MapF P k w b n f) : b < w.heap.size := let ⟨_, h1, _⟩ := h; h1.lt
theorem MapF.mono (h : MapF P k w b n f) {n' : Nat} (hn : n ≤ n') : MapF P k w b n' f := let ⟨D, h1, h2⟩ := h; ⟨D, h1.mono hn, h2⟩
theorem MapF.kept {w' : World} {row : Option Nat} (h : MapF P k w b n f) (hg : w.grownBy w' row) (hne : some b ≠ row) : MapF P k w' b n f := let ⟨D, h1, h2⟩ := h; ⟨D, h1.kept hg hne, h2⟩
theorem MapF.of_block {w' : World} (h : MapF P k w b n f) (hb : w'.heap[b]? = w.heap[b]?) : MapF P k w' b n f := by
  obtain ⟨D, ⟨es, clock, h1, r⟩, h2⟩ := h
  exact ⟨D, ⟨es, clock, hb.trans h1, r⟩, h2⟩
theorem MapF.alloc (h : MapF P k w b n f) (o : Obj) : MapF P k (w.alloc o) b n f := h.kept (World.grownBy_alloc w o none) (by simp)
theorem MapF.drew (h : MapF P k w b n f) : MapF P k w.drew b n f := h
theorem MapF.setCell (h : MapF P k w b n f) {a : Addr} (ha : b ≠ a.block) (u : Value) : MapF P k (w.setCell a u) b n f := let ⟨D, h1, h2⟩ := h; ⟨D, h1.setCell ha u, h2⟩
theorem MapF.made (w : World) (P : Program) (k : TypeId) : MapF P k (w.alloc (.map #[] 0)) w.heap.size 0 (fun _ => none) :=
  ⟨_, World.ownsMap_made w P k heldElem, fun s _ => ⟨fun _ => rfl, fun v h => by cases h⟩⟩
/-- A map is no row. -/
theorem MapF.ne_row (h : MapF P k w b n f) {g : Nat} {cs : Array Value} {t : TypeId} {fr : Nat × Nat} (hg : w.heap[g]? = some (.cells cs t fr)) : b ≠ g := by
  obtain ⟨D, ⟨es, clock, h1, _⟩, _⟩ := h
  intro e
  subst e
  rw [h1] at hg
  cases hg

theorem key_string (hk : P.underlying k = some .string) {s : ByteArray} (hs : s.size ≤ maxLen) : keyOf P k (.string s) = some (kOf s) := by
  simp [keyOf, hk, mapKey, hs, kOf]

theorem MapF.look_some (h : MapF P k w b n f) (hk : P.underlying k = some .string) (ht : P.underlying t = some (.map k e)) {z : Value} (hz : (zeroValue e).run P w = .ok z w) {s : ByteArray} (hs : s.size ≤ maxLen) {v : Value} (hv : f s = some v) :
    (Instr.lookup t (.map (some b)) (.string s) true).run P w = .ok (.tuple #[v, .bool true]) w ∧ (Instr.lookup t (.map (some b)) (.string s) false).run P w = .ok v w := by
  obtain ⟨D, h1, h2⟩ := h
  obtain ⟨hh, hat⟩ := (h2 s hs).2 v hv
  constructor
  · obtain ⟨u, ps, hrun, hu⟩ := h1.look_ok (string_keyed hk) ht hz (zd := .held z) (zp := []) rfl (key_string hk hs)
    rw [hat, heldElem] at hu
    simp only [Option.some.injEq, Prod.mk.injEq, DataW.held.injEq] at hu
    rw [hrun, hh, hu.1]
  · obtain ⟨u, ps, hrun, hu⟩ := h1.lookup (string_keyed hk) ht hz (zd := .held z) (zp := []) rfl (key_string hk hs)
    rw [hat, heldElem] at hu
    simp only [Option.some.injEq, Prod.mk.injEq, DataW.held.injEq] at hu
    rw [hrun, hu.1]

theorem MapF.look_none (h : MapF P k w b n f) (hk : P.underlying k = some .string) (ht : P.underlying t = some (.map k e)) {z : Value} (hz : (zeroValue e).run P w = .ok z w) {s : ByteArray} (hs : s.size ≤ maxLen) (hv : f s = none) :
    (Instr.lookup t (.map (some b)) (.string s) true).run P w = .ok (.tuple #[z, .bool false]) w ∧ (Instr.lookup t (.map (some b)) (.string s) false).run P w = .ok z w := by
  obtain ⟨D, h1, h2⟩ := h
  have hh := (h2 s hs).1 hv
  constructor
  · obtain ⟨u, ps, hrun, hu⟩ := h1.look_ok (string_keyed hk) ht hz (zd := .held z) (zp := []) rfl (key_string hk hs)
    rw [atKey_of_not_has hh, heldElem] at hu
    simp only [Option.some.injEq, Prod.mk.injEq, DataW.held.injEq] at hu
    rw [hrun, hh, hu.1]
  · obtain ⟨u, ps, hrun, hu⟩ := h1.lookup (string_keyed hk) ht hz (zd := .held z) (zp := []) rfl (key_string hk hs)
    rw [atKey_of_not_has hh, heldElem] at hu
    simp only [Option.some.injEq, Prod.mk.injEq, DataW.held.injEq] at hu
    rw [hrun, hu.1]

theorem MapF.update (h : MapF P k w b n f) (hk : P.underlying k = some .string) (ht : P.underlying t = some (.map k e)) (hn : n < maxLen) {s : ByteArray} (hs : s.size ≤ maxLen) (v : Value) :
    ∃ w', (Instr.mapUpdate t (.map (some b)) (.string s) v).run P w = .ok () w' ∧ MapF P k w' b (n + 1) (putF f s v) ∧ w.grownBy w' (some b) := by
  obtain ⟨D, h1, h2⟩ := h
  obtain ⟨w', hrun, h3, hg⟩ := h1.update (string_keyed hk) ht hn (val := v) (d := .held v) (ps := []) (key_string hk hs) rfl
  refine ⟨w', hrun, ⟨_, h3, fun s' hs' => ?_⟩, hg⟩
  by_cases e1 : s' = s
  · subst e1
    rw [putF_same]
    exact ⟨fun h => (by cases h), fun u hu => ⟨has_put_same h1.isMap (kOf_lit _) _, fun z => by rw [atKey_put_same h1.isMap (kOf_lit _)]; cases hu; rfl⟩⟩
  · rw [putF_other f v e1]
    refine ⟨fun h => ?_, fun u hu => ⟨?_, fun z => ?_⟩⟩
    · rw [has_put_other (kOf_ne e1)]; exact (h2 s' hs').1 h
    · rw [has_put_other (kOf_ne e1)]; exact ((h2 s' hs').2 u hu).1
    · rw [atKey_put_other (kOf_ne e1)]; exact ((h2 s' hs').2 u hu).2 z

theorem MapF.drop (h : MapF P k w b n f) (hk : P.underlying k = some .string) (ht : P.underlying t = some (.map k e)) {s : ByteArray} (hs : s.size ≤ maxLen) (ty : TypeId) :
    ∃ w', (Builtin.delete_ #[t, k] ty #[.map (some b), .string s]).run P w = .ok (.tuple #[]) w' ∧ MapF P k w' b n (delF f s) ∧ w.grownBy w' (some b) := by
  obtain ⟨D, h1, h2⟩ := h
  obtain ⟨w', hrun, h3, hg⟩ := h1.drop (string_keyed hk) ht (key_string hk hs) ty
  refine ⟨w', hrun, ⟨_, h3, fun s' hs' => ?_⟩, hg.grown⟩
  by_cases e1 : s' = s
  · subst e1
    rw [delF_same]
    exact ⟨fun _ => has_del_same, fun u hu => by cases hu⟩
  · rw [delF_other f e1]
    refine ⟨fun h => ?_, fun u hu => ⟨?_, fun z => ?_⟩⟩
    · rw [has_del_other (kOf_ne e1)]; exact (h2 s' hs').1 h
    · rw [has_del_other (kOf_ne e1)]; exact ((h2 s' hs').2 u hu).1
    · rw [atKey_del_other (kOf_ne e1)]; exact ((h2 s' hs').2 u hu).2 z
end

/-! ### at the operation, for the walk -/
section
variable {P : Program} (w : World) {ops : Array Oper} {rest : List Oper} {o : Oper} {a : Act} {Q : Exit → Act → World → Prop}

theorem wpList_look_some (hg : o.guard = none) (m x : Operand) (t : TypeId) (hop : o.op = Op.lookup t m x true) (k e : TypeId) (hk : P.underlying k = some .string) (ht : P.underlying t = some (.map k e)) (z : Value) (hz : (zeroValue e).run P w = .ok z w)
    (b n : Nat) (f : ByteArray → Option Value) (hm : a.eval m = .map (some b)) (hM : MapF P k w b n f) (s : ByteArray) (hx : a.eval x = .string s) (hs : s.size ≤ maxLen) (v : Value) (hv : f s = some v)
    (hK : wpList P ops Q rest (a.put o.dst (.tuple #[v, .bool true])) w) : wpList P ops Q (o :: rest) a w := by
  refine wpList_plain hg fun K' hK' => ?_
  unfold Oper.wp
  simp [execOp, hop, hm, hx, (hM.look_some hk ht hz hs hv).1, Result.andThen]
  exact hK' _ _ hK

theorem wpList_look_none (hg : o.guard = none) (m x : Operand) (t : TypeId) (hop : o.op = Op.lookup t m x true) (k e : TypeId) (hk : P.underlying k = some .string) (ht : P.underlying t = some (.map k e)) (z : Value) (hz : (zeroValue e).run P w = .ok z w)
    (b n : Nat) (f : ByteArray → Option Value) (hm : a.eval m = .map (some b)) (hM : MapF P k w b n f) (s : ByteArray) (hx : a.eval x = .string s) (hs : s.size ≤ maxLen) (hv : f s = none)
    (hK : wpList P ops Q rest (a.put o.dst (.tuple #[z, .bool false])) w) : wpList P ops Q (o :: rest) a w := by
  refine wpList_plain hg fun K' hK' => ?_
  unfold Oper.wp
  simp [execOp, hop, hm, hx, (hM.look_none hk ht hz hs hv).1, Result.andThen]
  exact hK' _ _ hK

theorem wpList_get_some (hg : o.guard = none) (m x : Operand) (t : TypeId) (hop : o.op = Op.lookup t m x false) (k e : TypeId) (hk : P.underlying k = some .string) (ht : P.underlying t = some (.map k e)) (z : Value) (hz : (zeroValue e).run P w = .ok z w)
    (b n : Nat) (f : ByteArray → Option Value) (hm : a.eval m = .map (some b)) (hM : MapF P k w b n f) (s : ByteArray) (hx : a.eval x = .string s) (hs : s.size ≤ maxLen) (v : Value) (hv : f s = some v)
    (hK : wpList P ops Q rest (a.put o.dst v) w) : wpList P ops Q (o :: rest) a w := by
  refine wpList_plain hg fun K' hK' => ?_
  unfold Oper.wp
  simp [execOp, hop, hm, hx, (hM.look_some hk ht hz hs hv).2, Result.andThen]
  exact hK' _ _ hK

theorem wpList_get_none (hg : o.guard = none) (m x : Operand) (t : TypeId) (hop : o.op = Op.lookup t m x false) (k e : TypeId) (hk : P.underlying k = some .string) (ht : P.underlying t = some (.map k e)) (z : Value) (hz : (zeroValue e).run P w = .ok z w)
    (b n : Nat) (f : ByteArray → Option Value) (hm : a.eval m = .map (some b)) (hM : MapF P k w b n f) (s : ByteArray) (hx : a.eval x = .string s) (hs : s.size ≤ maxLen) (hv : f s = none)
    (hK : wpList P ops Q rest (a.put o.dst z) w) : wpList P ops Q (o :: rest) a w := by
  refine wpList_plain hg fun K' hK' => ?_
  unfold Oper.wp
  simp [execOp, hop, hm, hx, (hM.look_none hk ht hz hs hv).2, Result.andThen]
  exact hK' _ _ hK

theorem wpList_put (hg : o.guard = none) (m x v : Operand) (t : TypeId) (hop : o.op = Op.mapUpdate t m x v) (k e : TypeId) (hk : P.underlying k = some .string) (ht : P.underlying t = some (.map k e))
    (b n : Nat) (f : ByteArray → Option Value) (hm : a.eval m = .map (some b)) (hM : MapF P k w b n f) (hn : n < maxLen) (s : ByteArray) (hx : a.eval x = .string s) (hs : s.size ≤ maxLen) (val : Value) (hv : a.eval v = val)
    (hK : ∀ w', MapF P k w' b (n + 1) (putF f s val) → w.grownBy w' (some b) → wpList P ops Q rest (a.put o.dst undef) w') : wpList P ops Q (o :: rest) a w := by
  refine wpList_plain hg fun K' hK' => ?_
  obtain ⟨w', hrun, r1, r2⟩ := hM.update hk ht hn hs val
  unfold Oper.wp
  simp [execOp, hop, hm, hx, hv, hrun, Result.andThen]
  exact hK' _ _ (hK w' r1 r2)

theorem wpList_del (hg : o.guard = none) (m x : Operand) (t k : TypeId) (hop : o.op = Op.call { callee := Callee.builtin Builtin.delete, args := #[m, x], argTypes := #[t, k] }) (e : TypeId) (hk : P.underlying k = some .string) (ht : P.underlying t = some (.map k e))
    (b n : Nat) (f : ByteArray → Option Value) (hm : a.eval m = .map (some b)) (hM : MapF P k w b n f) (s : ByteArray) (hx : a.eval x = .string s) (hs : s.size ≤ maxLen)
    (hK : ∀ w', MapF P k w' b n (delF f s) → w.grownBy w' (some b) → wpList P ops Q rest (a.put o.dst (.tuple #[])) w') : wpList P ops Q (o :: rest) a w := by
  refine wpList_plain hg fun K' hK' => ?_
  obtain ⟨w', hrun, r1, r2⟩ := hM.drop hk ht hs o.type
  unfold Oper.wp
  simp [execOp, hop, resolve, invoke, builtin, hm, hx, hrun, Result.andThen]
  exact hK' _ _ (hK w' r1 r2)
end
end Go.Proofs.Qxb6003797a
