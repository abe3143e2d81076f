import Derived.Test.Qxb6003797aLose
namespace Go.Proofs.Qxb6003797a
open Go.RowKit
open Go.ChangeMaps Go.MapKept Go.WideShapes
open Go.WideElems (Fit rd rg pl rd_key rd_val rg_of other_key rd_mk)
open Go.Maps (Keyed string_keyed)

section
variable {H : Type} {P : Program} {k : TypeId} {R : Value → Option (DataW H × List MemPlace)} {w : World} {b n : Nat} {D : DataW H}
theorem owns_put {t e : TypeId} (h : w.ownsMap P k R b n D) (K : Keyed P k) (ht : P.underlying t = some (.map k e)) (hn : n < maxLen) {key val : Value} {kl : Lit} {d : DataW H} {ps : List MemPlace}
    (hkey : keyOf P k key = some kl) (hv : R val = some (d, ps)) (hthere : Maps.has D kl = true) :
    ∃ w', (Instr.mapUpdate t (.map (some b)) key val).run P w = .ok () w' ∧ w'.ownsMap P k R b n (D.put kl d) ∧ w.grownBy w' (some b) := by
  obtain ⟨es, clock, hb, F, hs, rfl⟩ := h
  obtain ⟨es', clock', hrun, F', hput, _⟩ := Maps.fit_store (R' := R) K ht hb F (Nat.lt_of_le_of_lt hs hn) (fun _ _ _ _ hz => hz) hkey hv
  rcases K.find w hkey es.toList F.keys with ⟨h1, h2⟩ | ⟨j, e0, h1, h2, h3⟩
  · exfalso
    obtain ⟨p, hp, hpk⟩ := List.any_eq_true.1 hthere
    obtain ⟨x, hx, rfl⟩ := List.mem_map.1 (mem_sorted.1 hp)
    obtain ⟨y, hy⟩ := F.reads x hx
    have := WideAt.sameKey_eq hpk
    rw [rg_of hy] at this
    exact h2 x hx (K.inj (this ▸ rd_key hy) hkey)
  · have hj : es[j]? = some e0 := by simpa using h2
    have hrun2 : (Instr.mapUpdate t (.map (some b)) key val).run P w = .ok () (setBlock w b (.map (es.modify j (fun e' => { e' with key := key, val := val })) clock)) := by
      simp [Instr.mapUpdate, run_underlying ht, MapKept.run_getObj_map hb, K.check w false hkey, h1, hj, h3, K.stays w hkey, MapKept.run_setObj_map _ hb, Result.andThen, setBlock]
    have hw : setBlock w b (.map es' clock') = setBlock w b (.map (es.modify j (fun e' => { e' with key := key, val := val })) clock) := by
      rw [hrun] at hrun2
      exact (Result.ok.inj hrun2).2
    have ho := congrArg (fun w : World => w.heap[b]?) hw
    simp only [heap_setBlock_same hb] at ho
    have ho' := Option.some.inj ho
    injection ho' with he hc
    have hsz : es'.size = es.size := by rw [he]; simp
    exact ⟨_, hrun, ⟨es', _, heap_setBlock_same hb _, F', by omega, by rw [DataW.put_eq, hput]⟩, ⟨rfl, rfl, rfl, by simp [setBlock], fun i _ hi => heap_setBlock_other hb _ (fun e => hi (by rw [e]))⟩⟩
end

/-- A store at a key that is there: no entry more. -/
theorem MapF.put_there {w : World} {b n : Nat} {f : ByteArray → Option Value} {t e : TypeId} (h : MapF Try.prog 9 w b n f) (ht : Try.prog.underlying t = some (.map 9 e)) (hn : n < maxLen) {s : ByteArray} (hs : s.size ≤ maxLen) (hf : f s ≠ none) (v : Value) :
    ∃ w', (Instr.mapUpdate t (.map (some b)) (.string s) v).run Try.prog w = .ok () w' ∧ MapF Try.prog 9 w' b n (putF f s v) ∧ w.grownBy w' (some b) := by
  obtain ⟨D, h1, h2⟩ := h
  have hth : Maps.has D (kOf s) = true := by
    cases e1 : f s with
    | none => exact absurd e1 hf
    | some u => exact ((h2 s hs).2 u e1).1
  obtain ⟨w', hrun, hrg, hg⟩ := owns_put h1 (string_keyed Try.underlying9) ht hn (val := v) (d := .held v) (ps := []) (key_string Try.underlying9 hs) rfl hth
  have him := h1.isMap
  refine ⟨w', hrun, ⟨_, hrg, fun s' hs' => ?_⟩, hg⟩
  by_cases e1 : s' = s
  · subst e1
    rw [putF_same]
    exact ⟨fun h => (by cases h), fun u hu => ⟨Maps.has_put_same him (kOf_lit _) _, fun z => by rw [Maps.atKey_put_same him (kOf_lit _)]; cases hu; rfl⟩⟩
  · rw [putF_other f v e1]
    refine ⟨fun h => ?_, fun u hu => ⟨?_, fun z => ?_⟩⟩
    · rw [Maps.has_put_other (kOf_ne e1)]; exact (h2 s' hs').1 h
    · rw [Maps.has_put_other (kOf_ne e1)]; exact ((h2 s' hs').2 u hu).1
    · rw [Maps.atKey_put_other (kOf_ne e1)]; exact ((h2 s' hs').2 u hu).2 z

theorem wpList_put_there (w : World) {ops : Array Oper} {rest : List Oper} {o : Oper} {a : Act} {Q : Exit → Act → World → Prop} (hg : o.guard = none) (m x v : Operand) (t : TypeId) (hop : o.op = Op.mapUpdate t m x v) (e : TypeId) (ht : Try.prog.underlying t = some (.map 9 e)) (b n : Nat) (f : ByteArray → Option Value)
    (hm : a.eval m = .map (some b)) (hM : MapF Try.prog 9 w b n f) (hn : n < maxLen) (s : ByteArray) (hx : a.eval x = .string s) (hs : s.size ≤ maxLen) (hf : f s ≠ none) (val : Value) (hv : a.eval v = val)
    (hK : ∀ w', MapF Try.prog 9 w' b n (putF f s val) → w.grownBy w' (some b) → wpList Try.prog ops Q rest (a.put o.dst undef) w') : wpList Try.prog ops Q (o :: rest) a w := by
  refine wpList_plain hg fun K' hK' => ?_
  obtain ⟨w', hrun, r1, r2⟩ := hM.put_there ht hn hs hf val
  unfold Oper.wp
  simp [execOp, hop, hm, hx, hv, hrun, Result.andThen]
  exact hK' _ _ (hK w' r1 r2)

/-- What sendAll leaves. -/
def SAPost (w : World) (B n : Nat) (F : NF) (e : Ending) (w' : World) : Prop :=
  e = .returned (.tuple #[]) ∧ ∃ f', NI w' B n { F with pe := f' } ∧ (∀ s, F.pe s ≠ none → f' s ≠ none) ∧ Fr w w' [some (B + 16), some (B + 4)]

set_option maxRecDepth 100000 in
set_option maxHeartbeats 3200000 in
theorem sendAll (w : World) (B n : Nat) (F : NF) (h : NI w B n F) (hrp : ∀ s, F.re s ≠ none → F.pe s ≠ none) (hri : F.ri = noF) (hn : n ≤ 50000) :
    Calls Try.prog 52 #[.pointer (some ⟨B + 16, 0, none⟩)] w (SAPost w B n F) := by
  have hlt := h.lt
  have c1 := h.c_re
  go_enter Try.func52, Try.ntmps52
  go_wp2_with (at_range; refine wpList_rangeF _ rfl _ 86 rfl 83 Try.underlying86 (B + 3) n F.re rfl h.re ?_; intro w2 cnt2 hr2 hg2 hs2)
  have n2 : NI w2 B n F := h.keep (Fr.of_grown (R := []) hg2 (.inr rfl)) (by simp)
  have f2 : Fr w w2 [some (B + 16), some (B + 4)] := (Fr.of_grown (R := []) hg2 (.inr rfl)).mono (by simp)
  clear c1 hg2
  (try go_frame)
  go_loopw [2] (fun _ wr => ∃ L cnt f', MapR wr (B + 3) w.heap.size n F.re L cnt ∧ NI wr B n { F with pe := f' } ∧ (∀ s, F.pe s ≠ none → f' s ≠ none) ∧ Fr w wr [some (B + 16), some (B + 4)]) (fun _ wr => wr.rangeLeft (B + 3) w.heap.size)
  case atStart => exact ⟨_, cnt2, F.pe, hr2, n2, fun _ h => h, f2⟩
  case round =>
    obtain ⟨L, cnt, f', hR, hI, hp, hF⟩ := hrel
    have c5 := hI.c_ri
    go_wp2_with (first
      | (at_next; refine wpList_nextF _ rfl _ rfl (B + 3) w.heap.size n _ L cnt rfl hR (fun hl0 => ?_) (fun s v w3 cnt3 hs hLs hfs hR3 hlt3 hg3 hs3 hen => ?_); rotate_left; clear c5 hs3; (have hI3 := hI.keep (Fr.of_grown (R := [some w.heap.size]) hg3 (.inl (by simp))) (by intro k hk1 hk2; simp; omega)); have c4 := hI3.c_pe; (have hps : Hid (f' s ≠ none) := hp s (hrp s (by rw [hfs]; simp))); rotate_left)
      | (at_mapUpdate; refine wpList_put_there _ rfl _ _ _ 87 rfl 4 Try.underlying87 (B + 4) n f' rfl hI3.pe (by unfold maxLen; omega) s rfl hs hps.out (.bool true) rfl ?_; intro w4 hm4 hg4; go_frame)
      | (at_range; refine wpList_rangeF _ rfl _ 86 rfl 83 Try.underlying86 (B + 5) n F.ri rfl hI.ri ?_; intro w5 cnt5 hr5 hg5 hs5))
    · have n5 := hI.keep (Fr.of_grown (R := []) hg5 (.inr rfl)) (by simp)
      have f5 : Fr w w5 [some (B + 16), some (B + 4)] := hF.trans (Fr.of_grown (R := []) hg5 (.inr rfl)) (by simp)
      have z12 := n5.fz 12
      obtain ⟨u12, d12⟩ := n5.there 12 (by omega)
      clear hR hI hF c5 hr2 n2 f2 hs5
      (try go_frame)
      refine wp_loop_rounds 1 ?_
      rw [rounds_succ]
      go_wp2_with (at_next; refine wpList_nextF _ rfl _ rfl (B + 5) wr.heap.size n _ _ cnt5 rfl hr5 (fun hl0 => ?_) (fun s v w3 cnt3 hs hLs hfs hR3 hlt3 hg3 hs3 hen => absurd hfs (by rw [hri]; simp [noF])))
      go_end0
      exact ⟨rfl, f', n5.set 12 _ (by decide), hp, f5.trans (Fr.setCell _ _ _) (fun k _ hm => by simp at hm ⊢; omega)⟩
    · go_roundw
      case rel => exact ⟨_, cnt3, _, hR3.kept hg4 (by simp) (by simp; omega), hI3.w_pe hm4 hg4 (Nat.le_refl _), fun z hz => by
        by_cases e : z = s
        · subst e; rw [putF_same]; simp
        · rw [putF_other _ _ e]; exact hp z hz, (hF.trans (Fr.of_grown (R := [some w.heap.size]) hg3 (.inl (by simp))) (fun k hk hm => by simp at hm; omega)).trans (Fr.of_grown (R := [some (B + 4)]) hg4 (.inl (by simp))) (fun k _ hm => by simp at hm ⊢; omega)⟩
      case measure => rw [(hR3.kept hg4 (by simp) (by simp; omega)).left_eq, hR.left_eq]; exact hlt3
end Go.Proofs.Qxb6003797a
