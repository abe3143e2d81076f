import Derived.Test.Qxb6003797aNodes
import Derived.Maps.RangeWalk
namespace Go.Proofs.Qxb6003797a
open Go.RowKit
open Go.ChangeMaps Go.MapKept Go.WideShapes
open Go.WideElems (Fit rd rg pl rd_key rd_val rg_of other_key rd_mk)
open Go.Maps (Keyed string_keyed)

section
variable {H : Type} {P : Program} {k : TypeId} {R : Value → Option (DataW H × List MemPlace)} {w : World} {b r n : Nat} {D : DataW H} {left : Lit → Bool} {cnt : Nat}

theorem filter_born_len (seen : Array Nat) (l l' : List MapEntry) (h : l.map (·.born) = l'.map (·.born)) : (l.filter fun e => !seen.contains e.born).length = (l'.filter fun e => !seen.contains e.born).length := by
  have e1 : ∀ l : List MapEntry, (l.filter fun e => !seen.contains e.born).length = ((l.map (·.born)).filter fun x => !seen.contains x).length := fun l => by
    rw [List.filter_map, List.length_map]
    rfl
  rw [e1, e1, h]

/-- A store at a key that is there, while the map is ranged over: who is still to come stays. -/
theorem ranges_put {t e : TypeId} (h : w.ranges P k R b r n D left cnt) (K : Keyed P k) (ht : P.underlying t = some (.map k e)) (hn : n < maxLen) {key val : Value} {kl : Lit} {d : DataW H} {ps : List MemPlace}
    (hkey : keyOf P k key = some kl) (hv : R val = some (d, ps)) (hthere : Maps.has D kl = true) :
    ∃ w', (Instr.mapUpdate t (.map (some b)) key val).run P w = .ok () w' ∧ w'.ranges P k R b r n (D.put kl d) left cnt ∧ w.grownBy w' (some b) := by
  have hne := h.ne
  obtain ⟨es, clock, since, seen, c0, hb, F, hs, rfl, hr, hold, rfl, hl1, hl2, hsc, hsk⟩ := h
  obtain ⟨es', clock', hrun, F', hput, _⟩ := Maps.fit_store (R' := R) K ht hb F (Nat.lt_of_le_of_lt hs hn) (fun _ _ _ _ hz => hz) hkey hv
  rcases K.find w hkey es.toList F.keys with ⟨h1, h2⟩ | ⟨j, e0, h1, h2, h3⟩
  · exfalso
    obtain ⟨p, hp, hpk⟩ := List.any_eq_true.1 hthere
    obtain ⟨x, hx, rfl⟩ := List.mem_map.1 (mem_sorted.1 hp)
    obtain ⟨y, hy⟩ := F.reads x hx
    have := WideAt.sameKey_eq hpk
    rw [rg_of hy] at this
    exact h2 x hx (K.inj (this ▸ rd_key hy) hkey)
  · have hj : es[j]? = some e0 := by simpa using h2
    have hrun2 : (Instr.mapUpdate t (.map (some b)) key val).run P w = .ok () (setBlock w b (.map (es.modify j (fun e' => { e' with key := key, val := val })) clock)) := by
      simp [Instr.mapUpdate, run_underlying ht, MapKept.run_getObj_map hb, K.check w false hkey, h1, hj, h3, K.stays w hkey, MapKept.run_setObj_map _ hb, Result.andThen, setBlock]
    have hw : setBlock w b (.map es' clock') = setBlock w b (.map (es.modify j (fun e' => { e' with key := key, val := val })) clock) := by
      rw [hrun] at hrun2
      exact (Result.ok.inj hrun2).2
    have ho := congrArg (fun w : World => w.heap[b]?) hw
    simp only [heap_setBlock_same hb] at ho
    have ho' := Option.some.inj ho
    injection ho' with he hc
    subst hc
    have hlist : es'.toList = es.toList.set j { e0 with key := key, val := val } := by rw [he, Array.toList_modify, modify_eq_set _ _ _ _ h2]
    have hjl : j < es.toList.length := (List.getElem?_eq_some_iff.1 h2).1
    have hsz : es'.size = es.size := by rw [he]; simp
    have back : ∀ x' ∈ es'.toList, ∃ x ∈ es.toList, x'.key = x.key ∧ x'.born = x.born := fun x' hx' => by
      rw [hlist] at hx'
      rcases List.mem_or_eq_of_mem_set hx' with hx' | rfl
      · exact ⟨x', hx', rfl, rfl⟩
      · exact ⟨e0, List.mem_of_getElem? h2, h3.symm, rfl⟩
    have forth : ∀ x ∈ es.toList, ∃ x' ∈ es'.toList, x'.key = x.key ∧ x'.born = x.born := fun x hx => by
      obtain ⟨i, hi, rfl⟩ := List.getElem_of_mem hx
      have hi' : i < es'.toList.length := by rw [hlist]; simpa using hi
      refine ⟨es'.toList[i], List.getElem_mem hi', ?_⟩
      have : es'.toList[i] = (es.toList.set j { e0 with key := key, val := val })[i]'(by simpa using hi) := by simp only [hlist]
      rw [this, List.getElem_set]
      split
      · rename_i e1
        subst e1
        have : es.toList[j] = e0 := by
          have := (List.getElem?_eq_some_iff.1 h2).2
          exact this
        rw [this]
        exact ⟨h3.symm, rfl⟩
      · exact ⟨rfl, rfl⟩
    have krg : ∀ x' ∈ es'.toList, ∀ x ∈ es.toList, x'.key = x.key → (rg P k R x').1 = (rg P k R x).1 := fun x' hx' x hx hk => by
      obtain ⟨y', hy'⟩ := F'.reads x' hx'
      obtain ⟨y, hy⟩ := F.reads x hx
      rw [rg_of hy', rg_of hy]
      have e1 := rd_key hy'
      rw [hk, rd_key hy] at e1
      exact (Option.some.inj e1).symm
    refine ⟨_, hrun, ⟨es', _, since, seen, c0, heap_setBlock_same hb _, F', by omega, by rw [DataW.put_eq, hput], (heap_setBlock_other hb _ hne).trans hr, fun x' hx' => ?_, ?_, fun x' hx' => ?_, fun kl' hkl' => ?_, hsc, hsk⟩, ⟨rfl, rfl, rfl, by simp [setBlock], fun i _ hi => heap_setBlock_other hb _ (fun e => hi (by rw [e]))⟩⟩
    · obtain ⟨x, hx, _, hbn⟩ := back x' hx'
      rw [hbn]
      exact hold x hx
    · have e1 : ∀ a : Array MapEntry, (leftOf a seen).size = (a.toList.filter fun e => !seen.contains e.born).length := fun a => by
        unfold leftOf
        rw [← Array.toList_filter, Array.length_toList]
      rw [e1, e1]
      refine filter_born_len seen _ _ ?_
      rw [hlist, List.map_set]
      have : es.toList[j] = e0 := (List.getElem?_eq_some_iff.1 h2).2
      have hb0 : (es.toList.map (·.born))[j]'(by simpa using hjl) = e0.born := by simp [← this]
      rw [← hb0]
      exact List.set_getElem_self _
    · obtain ⟨x, hx, hkx, hbn⟩ := back x' hx'
      rw [krg x' hx' x hx hkx, hbn]
      exact hl1 x hx
    · obtain ⟨x, hx, rfl⟩ := hl2 kl' hkl'
      obtain ⟨x', hx', hkx, _⟩ := forth x hx
      exact ⟨x', hx', krg x' hx' x hx hkx⟩
end

theorem key_string_inv {P : Program} {k : TypeId} (hk : P.underlying k = some .string) {key : Value} {kl : Lit} (h : keyOf P k key = some kl) : ∃ s : ByteArray, key = .string s ∧ kl = kOf s ∧ s.size ≤ maxLen := by
  cases key <;> simp [keyOf, hk, mapKey] at h
  obtain ⟨hs, rfl⟩ := h
  exact ⟨_, rfl, rfl, hs⟩

theorem kOf_same {s s' : ByteArray} : (kOf s).sameKey (kOf s') = decide (s = s') := by
  by_cases e : s = s'
  · subst e
    rw [WideAt.sameKey_self (kOf_lit _)]
    simp
  · rw [Maps.sameKey_ne (kOf_ne (fun h => e h))]
    simp [e]

/-- Block b is a map, keyed by strings, that holds f; block r ranges over it; L: who is still to come; cnt: how many. -/
def MapR (w : World) (b r n : Nat) (f : ByteArray → Option Value) (L : ByteArray → Bool) (cnt : Nat) : Prop :=
  ∃ (D : DataW Value) (left : Lit → Bool), w.ranges Try.prog 9 heldElem b r n D left cnt ∧ (∀ s : ByteArray, s.size ≤ maxLen → (f s = none → Maps.has D (kOf s) = false) ∧ (∀ v, f s = some v → Maps.has D (kOf s) = true ∧ ∀ z, D.atKey (kOf s) z = .held v)) ∧ ∀ s : ByteArray, s.size ≤ maxLen → L s = left (kOf s)

section
variable {w : World} {b r n : Nat} {f : ByteArray → Option Value} {L : ByteArray → Bool} {cnt : Nat}

theorem MapR.mapF (h : MapR w b r n f L cnt) : MapF Try.prog 9 w b n f := let ⟨D, _, h1, h2, _⟩ := h; ⟨D, h1.owns, h2⟩
theorem MapR.left_eq (h : MapR w b r n f L cnt) : w.rangeLeft b r = cnt := let ⟨_, _, h1, _⟩ := h; h1.left_eq
theorem MapR.lt (h : MapR w b r n f L cnt) : r < w.heap.size := let ⟨_, _, h1, _⟩ := h; h1.lt
theorem MapR.kept {w' : World} {row : Option Nat} (h : MapR w b r n f L cnt) (hg : w.grownBy w' row) (hb : some b ≠ row) (hr : some r ≠ row) : MapR w' b r n f L cnt :=
  let ⟨D, left, h1, h2⟩ := h; ⟨D, left, h1.kept hg hb hr, h2⟩
theorem MapR.alloc (h : MapR w b r n f L cnt) (o : Obj) : MapR (w.alloc o) b r n f L cnt := h.kept (World.grownBy_alloc w o none) (by simp) (by simp)
theorem MapR.of_blocks {w' : World} (h : MapR w b r n f L cnt) (hb : w'.heap[b]? = w.heap[b]?) (hr : w'.heap[r]? = w.heap[r]?) : MapR w' b r n f L cnt := by
  obtain ⟨D, left, ⟨es, clock, since, seen, c0, h1, F, h3, h4, h5, rest⟩, h2⟩ := h
  exact ⟨D, left, ⟨es, clock, since, seen, c0, hb.trans h1, F, h3, h4, hr.trans h5, rest⟩, h2⟩

theorem MapF.range {t e : TypeId} (h : MapF Try.prog 9 w b n f) (ht : Try.prog.underlying t = some (.map 9 e)) :
    ∃ w' cnt, (Instr.range t (.map (some b))).run Try.prog w = .ok (.pointer (some ⟨w.heap.size, 0, none⟩)) w' ∧ MapR w' b w.heap.size n f (fun s => (f s).isSome) cnt ∧ w.grownBy w' none ∧ w'.heap.size = w.heap.size + 1 := by
  obtain ⟨D, h1, h2⟩ := h
  obtain ⟨w', hrun, hrg, hg, hs⟩ := h1.range (string_keyed Try.underlying9) ht
  refine ⟨w', _, hrun, ⟨D, _, hrg, h2, fun s hs => ?_⟩, hg, hs⟩
  cases e1 : f s with
  | none => show (f s).isSome = _; rw [e1, (h2 s hs).1 e1]; rfl
  | some v => show (f s).isSome = _; rw [e1, ((h2 s hs).2 v e1).1]; rfl

theorem MapR.next (h : MapR w b r n f L cnt) (ty : TypeId) :
    ((∀ s : ByteArray, s.size ≤ maxLen → L s = false) ∧ (Instr.next (.pointer (some ⟨r, 0, none⟩)) false ty).run Try.prog w = .ok (.tuple #[.bool false]) w) ∨
    ∃ (s : ByteArray) (v : Value) (w' : World) (cnt' : Nat), s.size ≤ maxLen ∧ L s = true ∧ f s = some v ∧ (Instr.next (.pointer (some ⟨r, 0, none⟩)) false ty).run Try.prog w = .ok (.tuple #[.bool true, .string s, v]) w' ∧
      MapR w' b r n f (fun x => L x && !decide (x = s)) cnt' ∧ cnt' < cnt ∧ w.grownBy w' (some r) ∧ w'.heap.size = w.heap.size ∧ (Instr.entry (.pointer (some ⟨r, 0, none⟩))).run Try.prog w' = .ok (.tuple #[.string s, v]) w' := by
  obtain ⟨D, left, h1, h2, h3⟩ := h
  rcases h1.next (string_keyed Try.underlying9) ty with ⟨h0, hl, hrun⟩ | ⟨key, v, kl, y, w', cnt', hkey, hlk, hv, hat, hrun, hrg, hlt, hgr, hsz, hen⟩
  · exact .inl ⟨fun s hs => by rw [h3 s hs]; exact hl _, hrun⟩
  · obtain ⟨s, rfl, rfl, hs⟩ := key_string_inv Try.underlying9 hkey
    refine .inr ⟨s, v, w', cnt', hs, by rw [h3 s hs]; exact hlk, ?_, hrun, ⟨D, _, hrg, h2, fun x hx => ?_⟩, hlt, hgr, hsz, hen⟩
    · cases e1 : f s with
      | none =>
        have := (h2 s hs).1 e1
        have h4 : Maps.has D (kOf s) = true := by
          obtain ⟨es, clock, since, seen, c0, hb, F, hs', rfl, hr, hold, rfl, hl1, hl2, hsc, hsk⟩ := h1
          obtain ⟨x, hx, e2⟩ := hl2 _ hlk
          exact List.any_eq_true.2 ⟨rg Try.prog 9 heldElem x, mem_sorted.2 (List.mem_map.2 ⟨x, hx, rfl⟩), by rw [e2]; exact WideAt.sameKey_self (kOf_lit _)⟩
        rw [this] at h4
        cases h4
      | some u =>
        have h4 := ((h2 s hs).2 u e1).2 (.held u)
        rw [hat] at h4
        simp only [heldElem, Option.some.injEq] at hv
        subst hv
        simp only [DataW.held.injEq] at h4
        rw [h4]
    · show (L x && !decide (x = s)) = (left (kOf x) && !(kOf x).sameKey (kOf s))
      rw [h3 x hx, kOf_same]

theorem MapR.put {t e : TypeId} (h : MapR w b r n f L cnt) (ht : Try.prog.underlying t = some (.map 9 e)) (hn : n < maxLen) {s : ByteArray} (hs : s.size ≤ maxLen) (hf : f s ≠ none) (v : Value) :
    ∃ w', (Instr.mapUpdate t (.map (some b)) (.string s) v).run Try.prog w = .ok () w' ∧ MapR w' b r n (putF f s v) L cnt ∧ w.grownBy w' (some b) := by
  obtain ⟨D, left, h1, h2, h3⟩ := h
  have hth : Maps.has D (kOf s) = true := by
    cases e1 : f s with
    | none => exact absurd e1 hf
    | some u => exact ((h2 s hs).2 u e1).1
  obtain ⟨w', hrun, hrg, hg⟩ := ranges_put h1 (string_keyed Try.underlying9) ht hn (val := v) (d := .held v) (ps := []) (key_string Try.underlying9 hs) rfl hth
  have him := h1.owns.isMap
  refine ⟨w', hrun, ⟨_, left, hrg, fun s' hs' => ?_, h3⟩, hg⟩
  by_cases e1 : s' = s
  · subst e1
    rw [putF_same]
    exact ⟨fun h => (by cases h), fun u hu => ⟨Maps.has_put_same him (kOf_lit _) _, fun z => by rw [Maps.atKey_put_same him (kOf_lit _)]; cases hu; rfl⟩⟩
  · rw [putF_other f v e1]
    refine ⟨fun h => ?_, fun u hu => ⟨?_, fun z => ?_⟩⟩
    · rw [Maps.has_put_other (kOf_ne e1)]; exact (h2 s' hs').1 h
    · rw [Maps.has_put_other (kOf_ne e1)]; exact ((h2 s' hs').2 u hu).1
    · rw [Maps.atKey_put_other (kOf_ne e1)]; exact ((h2 s' hs').2 u hu).2 z

theorem MapF.clear {t e : TypeId} (h : MapF Try.prog 9 w b n f) (ht : Try.prog.underlying t = some (.map 9 e)) (ty : TypeId) :
    ∃ w', (Builtin.clear_ #[t] ty #[.map (some b)]).run Try.prog w = .ok (.tuple #[]) w' ∧ MapF Try.prog 9 w' b n noF ∧ w.grownBy w' (some b) := by
  obtain ⟨D, ⟨es, clock, hb, F, hs, rfl⟩, h2⟩ := h
  refine ⟨setBlock w b (.map #[] clock), ?_, ⟨.map [], ⟨#[], clock, heap_setBlock_same hb _, ⟨Nat.zero_le _, stamped_empty clock, by simp⟩, Nat.zero_le _, rfl⟩, fun s _ => ⟨fun _ => rfl, fun v h => by cases h⟩⟩, ⟨rfl, rfl, rfl, by simp [setBlock], fun i _ hi => heap_setBlock_other hb _ (fun e => hi (by rw [e]))⟩⟩
  simp [Builtin.clear_, run_underlying ht, MapKept.run_getObj_map hb, MapKept.run_setObj_map _ hb, Result.andThen, setBlock]
end

/-! ### at the operation, for the walk -/
section
variable (w : World) {ops : Array Oper} {rest : List Oper} {o : Oper} {a : Act} {Q : Exit → Act → World → Prop}

theorem wpList_rangeF (hg : o.guard = none) (m : Operand) (t : TypeId) (hop : o.op = Op.range t m) (e : TypeId) (ht : Try.prog.underlying t = some (.map 9 e)) (b n : Nat) (f : ByteArray → Option Value)
    (hm : a.eval m = .map (some b)) (hM : MapF Try.prog 9 w b n f)
    (hK : ∀ w' cnt, MapR w' b w.heap.size n f (fun s => (f s).isSome) cnt → w.grownBy w' none → w'.heap.size = w.heap.size + 1 → wpList Try.prog ops Q rest (a.put o.dst (.pointer (some ⟨w.heap.size, 0, none⟩))) w') :
    wpList Try.prog ops Q (o :: rest) a w := by
  refine wpList_plain hg fun K' hK' => ?_
  obtain ⟨w', cnt, hrun, r1, r2, r3⟩ := hM.range ht
  unfold Oper.wp
  simp [execOp, hop, hm, hrun, Result.andThen]
  exact hK' _ _ (hK w' cnt r1 r2 r3)

theorem wpList_nextF (hg : o.guard = none) (it : Operand) (hop : o.op = Op.next it false) (b r n : Nat) (f : ByteArray → Option Value) (L : ByteArray → Bool) (cnt : Nat)
    (hit : a.eval it = .pointer (some ⟨r, 0, none⟩)) (h : MapR w b r n f L cnt)
    (hDone : (∀ s : ByteArray, s.size ≤ maxLen → L s = false) → wpList Try.prog ops Q rest (a.put o.dst (.tuple #[.bool false])) w)
    (hMore : ∀ (s : ByteArray) (v : Value) (w' : World) (cnt' : Nat), s.size ≤ maxLen → L s = true → f s = some v → MapR w' b r n f (fun x => L x && !decide (x = s)) cnt' → cnt' < cnt → w.grownBy w' (some r) → w'.heap.size = w.heap.size →
      (Instr.entry (.pointer (some ⟨r, 0, none⟩))).run Try.prog w' = .ok (.tuple #[.string s, v]) w' → wpList Try.prog ops Q rest (a.put o.dst (.tuple #[.bool true, .string s, v])) w') :
    wpList Try.prog ops Q (o :: rest) a w := by
  refine wpList_plain hg fun K' hK' => ?_
  unfold Oper.wp
  rcases h.next o.type with ⟨hl, hrun⟩ | ⟨s, v, w', cnt', h1, h2, h3, hrun, h4, h5, h6, h7, h8⟩
  · simp [execOp, hop, hit, hrun, Result.andThen]
    exact hK' _ _ (hDone hl)
  · simp [execOp, hop, hit, hrun, Result.andThen]
    exact hK' _ _ (hMore s v w' cnt' h1 h2 h3 h4 h5 h6 h7 h8)

theorem wpList_putR (hg : o.guard = none) (m x v : Operand) (t : TypeId) (hop : o.op = Op.mapUpdate t m x v) (e : TypeId) (ht : Try.prog.underlying t = some (.map 9 e)) (b r n : Nat) (f : ByteArray → Option Value) (L : ByteArray → Bool) (cnt : Nat)
    (hm : a.eval m = .map (some b)) (hM : MapR w b r n f L cnt) (hn : n < maxLen) (s : ByteArray) (hx : a.eval x = .string s) (hs : s.size ≤ maxLen) (hf : f s ≠ none) (val : Value) (hv : a.eval v = val)
    (hK : ∀ w', MapR w' b r n (putF f s val) L cnt → w.grownBy w' (some b) → wpList Try.prog ops Q rest (a.put o.dst undef) w') : wpList Try.prog ops Q (o :: rest) a w := by
  refine wpList_plain hg fun K' hK' => ?_
  obtain ⟨w', hrun, r1, r2⟩ := hM.put ht hn hs hf val
  unfold Oper.wp
  simp [execOp, hop, hm, hx, hv, hrun, Result.andThen]
  exact hK' _ _ (hK w' r1 r2)

theorem wpList_clearF (hg : o.guard = none) (m : Operand) (t : TypeId) (hop : o.op = Op.call { callee := Callee.builtin Builtin.clear, args := #[m], argTypes := #[t] }) (e : TypeId) (ht : Try.prog.underlying t = some (.map 9 e)) (b n : Nat) (f : ByteArray → Option Value)
    (hm : a.eval m = .map (some b)) (hM : MapF Try.prog 9 w b n f)
    (hK : ∀ w', MapF Try.prog 9 w' b n noF → w.grownBy w' (some b) → wpList Try.prog ops Q rest (a.put o.dst (.tuple #[])) w') : wpList Try.prog ops Q (o :: rest) a w := by
  refine wpList_plain hg fun K' hK' => ?_
  obtain ⟨w', hrun, r1, r2⟩ := hM.clear ht o.type
  unfold Oper.wp
  simp [execOp, hop, resolve, invoke, builtin, hm, hrun, Result.andThen]
  exact hK' _ _ (hK w' r1 r2)
end
end Go.Proofs.Qxb6003797a
