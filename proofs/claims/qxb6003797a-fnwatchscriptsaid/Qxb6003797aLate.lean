import Derived.OrdersHeld
import Derived.RegionTactic
namespace Go.Proofs.Qxb6003797a
open Go

section
variable {P : Program} {ops : Array Oper} {Q : Exit → Act → World → Prop} {md : Region.Mode} {S : World → Prop} {z : Nat}

/-- Whatever order is picked from here on, and S holds behind every operation that is carried out ahead of number z. -/
def wpAnyL (P : Program) (md : Region.Mode) (ops : Array Oper) (Q : Exit → Act → World → Prop) (S : World → Prop) (z : Nat) : Nat → Array Bool → Act → World → Prop
  | 0, listed, a, w => Region.ready md ops listed = [] ∧ Q .normal a w
  | fuel + 1, listed, a, w =>
    (Region.ready md ops listed = [] → Q .normal a w) ∧
    ∀ i ∈ Region.ready md ops listed, wpOp P ops Q i (fun a' w' => (i ≠ z → listed.getD z true = false → S w') ∧ wpAnyL P md ops Q S z fuel (listed.setIfInBounds i true) a' w') a w

theorem wpAny_of_late : ∀ (fuel : Nat) (listed : Array Bool) (a : Act) (w : World), wpAnyL P md ops Q S z fuel listed a w → wpAny P md ops Q fuel listed a w
  | 0, _, _, _, h => h
  | fuel + 1, _, _, _, h => ⟨h.1, fun i hi => wpOp_mono (fun a' w' h' => wpAny_of_late fuel _ a' w' h'.2) (h.2 i hi)⟩

/-- Number z waits for number i. -/
def Waits (md : Region.Mode) (ops : Array Oper) (z i : Nat) : Bool := ((ops[z]?).map fun o => o.after.any fun e => Region.binds md e && e.on == i).getD false

theorem wpAnyL_first {i : Nat} {oi : Oper} {v : Value} (hi : ops[i]? = some oi) (hsel : ∀ (j : Nat) (o : Oper) cs b, ops[j]? = some o → o.op ≠ .select cs b)
    (hQ : ∀ c a w, Q (.panic c) (a.put oi.dst v) w → Q (.panic c) a w) (hz : Waits md ops z i = true) (hiz : i ≠ z) :
    ∀ (fuel : Nat) (listed : Array Bool) (a : Act) (w : World),
      (∀ j oj, ops[j]? = some oj → j ≠ i → listed.getD j true = false → (∀ e ∈ oj.after, Region.binds md e = true → e.on ≠ i) → oi.apart ops oj = true) →
      i ∈ Region.ready md ops listed → YieldsIf P ops S oi v a → S w → listed.getD z true = false →
      wpAnyL P md ops Q S z fuel (listed.setIfInBounds i true) (a.put oi.dst v) w → wpAnyL P md ops Q S z (fuel + 1) listed a w := by
  have notz : ∀ (listed : Array Bool) (j : Nat), i ∈ Region.ready md ops listed → j ∈ Region.ready md ops listed → j ≠ z := by
    intro listed j hr hj e
    subst e
    obtain ⟨_, o, ho, hall⟩ := mem_ready.1 hj
    simp only [Waits, ho, Option.map_some, Option.getD_some, Array.any_eq_true] at hz
    obtain ⟨x, hx, he⟩ := hz
    simp only [Bool.and_eq_true, beq_iff_eq] at he
    have h1 := hall _ (Array.getElem_mem hx) he.1
    have h0 := (mem_ready.1 hr).1
    rw [he.2] at h1
    rcases Nat.lt_or_ge i listed.size with h' | h'
    · simp [h'] at h0 h1; rw [h0] at h1; cases h1
    · simp [Array.getElem?_eq_none h'] at h1
  intro fuel
  induction fuel with
  | zero =>
    intro listed a w _ hr hy hS hls H
    refine ⟨fun h => (by rw [h] at hr; cases hr), fun j hj => ?_⟩
    by_cases hji : j = i
    · subst hji; exact hy.wpOp hi hS ⟨fun _ _ => hS, H⟩
    · have := ready_mono hj hji
      rw [H.1] at this
      cases this
  | succ fuel ih =>
    intro listed a w hfree hr hy hS hls H
    refine ⟨fun h => (by rw [h] at hr; cases hr), fun j hj => ?_⟩
    by_cases hji : j = i
    · subst hji; exact hy.wpOp hi hS ⟨fun _ _ => hS, H⟩
    · have hjz := notz listed j hr hj
      have h1 := H.2 j (ready_mono hj hji)
      obtain ⟨hjun, oj, hoj, hall⟩ := mem_ready.1 hj
      have hnot : ∀ e ∈ oj.after, Region.binds md e = true → e.on ≠ i := fun e he hb heq => by
        have h1 := hall e he hb
        have h0 := (mem_ready.1 hr).1
        rw [heq] at h1
        rcases Nat.lt_or_ge i listed.size with h' | h'
        · simp [h'] at h0 h1; rw [h0] at h1; cases h1
        · simp [Array.getElem?_eq_none h'] at h1
      have h2 := wpOp_putIf hoj (hfree j oj hoj hji hjun hnot) (fun cs b => hsel i oi cs b hi) (fun cs b => hsel j oj cs b hoj) hQ hy h1
      have hfree' : ∀ k ok, ops[k]? = some ok → k ≠ i → (listed.setIfInBounds j true).getD k true = false →
          (∀ e ∈ ok.after, Region.binds md e = true → e.on ≠ i) → oi.apart ops ok = true := fun k ok hk hki hun hno => by
        refine hfree k ok hk hki ?_ hno
        by_cases hjk : j = k
        · subst hjk; exact hjun
        · rw [getD_set_ne true hjk] at hun; exact hun
      have hlsj : (listed.setIfInBounds j true).getD z true = false := by rw [getD_set_ne true hjz]; exact hls
      have hlsi : (listed.setIfInBounds i true).getD z true = false := by rw [getD_set_ne true hiz]; exact hls
      refine wpOp_mono (fun a' w' h3 => ?_) h2
      have hS' : S w' := h3.2.1 hjz hlsi
      refine ⟨fun _ _ => hS', ih (listed.setIfInBounds j true) a' w' hfree' (ready_mono hr (Ne.symm hji)) h3.1 hS' hlsj ?_⟩
      rw [Array.setIfInBounds_comm _ _ hji]
      exact h3.2.2

/-- Take number i first. -/
theorem wpAnyL_take {i : Nat} {oi : Oper} {v : Value} {fuel : Nat} {listed : Array Bool} {a : Act} {w : World} (hi : ops[i]? = some oi)
    (hs : Region.noSelect ops = true) (hf : Region.free md ops listed i = true) (hr : (Region.ready md ops listed).contains i = true) (hz : Waits md ops z i = true) (hiz : i ≠ z) (hls : listed.getD z true = false)
    (hQ : ∀ c a w, Q (.panic c) (a.put oi.dst v) w → Q (.panic c) a w) (hy : YieldsIf P ops S oi v a) (hS : S w)
    (h : wpAnyL P md ops Q S z fuel (listed.setIfInBounds i true) (a.put oi.dst v) w) : wpAnyL P md ops Q S z (fuel + 1) listed a w :=
  wpAnyL_first hi (Region.noSelect_spec hs) hQ hz hiz fuel listed a w (Region.free_spec hi hf) (by simpa using hr) hy hS hls h

/-- What yields its value in whatever world may be taken first, whether or not z waits for it. -/
theorem wpAnyL_firstY {i : Nat} {oi : Oper} {v : Value} (hi : ops[i]? = some oi) (hsel : ∀ (j : Nat) (o : Oper) cs b, ops[j]? = some o → o.op ≠ .select cs b)
    (hQ : ∀ c a w, Q (.panic c) (a.put oi.dst v) w → Q (.panic c) a w) (hiz : i ≠ z) :
    ∀ (fuel : Nat) (listed : Array Bool) (a : Act) (w : World),
      (∀ j oj, ops[j]? = some oj → j ≠ i → listed.getD j true = false → (∀ e ∈ oj.after, Region.binds md e = true → e.on ≠ i) → oi.apart ops oj = true) →
      i ∈ Region.ready md ops listed → Yields P ops oi v a → (listed.getD z true = false → S w) →
      wpAnyL P md ops Q S z fuel (listed.setIfInBounds i true) (a.put oi.dst v) w → wpAnyL P md ops Q S z (fuel + 1) listed a w := by
  have eqz : ∀ listed : Array Bool, (listed.setIfInBounds i true).getD z true = listed.getD z true := fun listed => getD_set_ne true hiz
  intro fuel
  induction fuel with
  | zero =>
    intro listed a w _ hr hy hS H
    refine ⟨fun h => (by rw [h] at hr; cases hr), fun j hj => ?_⟩
    by_cases hji : j = i
    · subst hji; exact hy.wpOp hi ⟨fun _ h => hS h, H⟩
    · have := ready_mono hj hji
      rw [H.1] at this
      cases this
  | succ fuel ih =>
    intro listed a w hfree hr hy hS H
    refine ⟨fun h => (by rw [h] at hr; cases hr), fun j hj => ?_⟩
    by_cases hji : j = i
    · subst hji; exact hy.wpOp hi ⟨fun _ h => hS h, H⟩
    · have h1 := H.2 j (ready_mono hj hji)
      obtain ⟨hjun, oj, hoj, hall⟩ := mem_ready.1 hj
      have hnot : ∀ e ∈ oj.after, Region.binds md e = true → e.on ≠ i := fun e he hb heq => by
        have h1 := hall e he hb
        have h0 := (mem_ready.1 hr).1
        rw [heq] at h1
        rcases Nat.lt_or_ge i listed.size with h' | h'
        · simp [h'] at h0 h1; rw [h0] at h1; cases h1
        · simp [Array.getElem?_eq_none h'] at h1
      have h2 := wpOp_put hoj (hfree j oj hoj hji hjun hnot) (fun cs b => hsel i oi cs b hi) (fun cs b => hsel j oj cs b hoj) hQ hy h1
      have hfree' : ∀ k ok, ops[k]? = some ok → k ≠ i → (listed.setIfInBounds j true).getD k true = false →
          (∀ e ∈ ok.after, Region.binds md e = true → e.on ≠ i) → oi.apart ops ok = true := fun k ok hk hki hun hno => by
        refine hfree k ok hk hki ?_ hno
        by_cases hjk : j = k
        · subst hjk; exact hjun
        · rw [getD_set_ne true hjk] at hun; exact hun
      refine wpOp_mono (fun a' w' h3 => ?_) h2
      have hS' : j ≠ z → listed.getD z true = false → S w' := fun h h' => h3.2.1 h (by rw [eqz]; exact h')
      refine ⟨hS', ih (listed.setIfInBounds j true) a' w' hfree' (ready_mono hr (Ne.symm hji)) h3.1 (fun h => ?_) ?_⟩
      · by_cases e : j = z
        · subst e
          rcases Nat.lt_or_ge j listed.size with h' | h'
          · simp [h'] at h
          · simp [Array.getElem?_eq_none h'] at hjun
        · rw [getD_set_ne true e] at h; exact hS' e h
      · rw [Array.setIfInBounds_comm _ _ hji]
        exact h3.2.2

/-- Take number i first: it yields its value in whatever world. -/
theorem wpAnyL_takeY {i : Nat} {oi : Oper} {v : Value} {fuel : Nat} {listed : Array Bool} {a : Act} {w : World} (hi : ops[i]? = some oi)
    (hs : Region.noSelect ops = true) (hf : Region.free md ops listed i = true) (hr : (Region.ready md ops listed).contains i = true) (hiz : i ≠ z)
    (hQ : ∀ c a w, Q (.panic c) (a.put oi.dst v) w → Q (.panic c) a w) (hy : Yields P ops oi v a) (hS : listed.getD z true = false → S w)
    (h : wpAnyL P md ops Q S z fuel (listed.setIfInBounds i true) (a.put oi.dst v) w) : wpAnyL P md ops Q S z (fuel + 1) listed a w :=
  wpAnyL_firstY hi (Region.noSelect_spec hs) hQ hiz fuel listed a w (Region.free_spec hi hf) (by simpa using hr) hy hS h

/-- Whichever comes up. -/
theorem wpAnyL_all {rs : List Nat} {fuel : Nat} {listed : Array Bool} {a : Act} {w : World} (hr : Region.ready md ops listed = rs) (hne : rs ≠ [])
    (h : ∀ i ∈ rs, wpOp P ops Q i (fun a' w' => (i ≠ z → listed.getD z true = false → S w') ∧ wpAnyL P md ops Q S z fuel (listed.setIfInBounds i true) a' w') a w) : wpAnyL P md ops Q S z (fuel + 1) listed a w :=
  ⟨fun h0 => absurd (hr ▸ h0) hne, hr ▸ h⟩

theorem wpAnyL_done {listed : Array Bool} {a : Act} {w : World} (hr : Region.ready md ops listed = []) (h : Q .normal a w) :
    ∀ fuel, wpAnyL P md ops Q S z fuel listed a w
  | 0 => ⟨hr, h⟩
  | _ + 1 => ⟨fun _ => h, by rw [hr]; simp⟩

/-- Where z has come up nothing more is asked of S: any order. -/
theorem wpAnyL_of_any : ∀ (fuel : Nat) (listed : Array Bool) (a : Act) (w : World), listed.getD z true = true → wpAny P md ops Q fuel listed a w → wpAnyL P md ops Q S z fuel listed a w
  | 0, _, _, _, _, h => h
  | fuel + 1, listed, _, _, hz, h => ⟨h.1, fun i hi => wpOp_mono (fun a' w' h' => ⟨fun _ hf => by rw [hz] at hf; (cases hf), wpAnyL_of_any fuel _ a' w' (by
      by_cases e : i = z
      · subst e
        rcases Nat.lt_or_ge i listed.size with h' | h'
        · simp [h']
        · simp
      · rw [getD_set_ne true e]; exact hz) h'⟩) (h.2 i hi)⟩

/-- As 'wpAnyL_takeY', the slot written out. -/
theorem wpAnyL_takeW {i : Nat} {oi : Oper} {v : Value} (dst : Option Tmp) {fuel : Nat} {listed : Array Bool} {a : Act} {w : World} (hi : ops[i]? = some oi) (hd : oi.dst = dst)
    (hs : Region.noSelect ops = true) (hf : Region.free md ops listed i = true) (hr : (Region.ready md ops listed).contains i = true) (hiz : i ≠ z)
    (hQ : ∀ c a w, Q (.panic c) (a.put dst v) w → Q (.panic c) a w) (hy : Yields P ops oi v a) (hS : listed.getD z true = false → S w)
    (h : wpAnyL P md ops Q S z fuel (listed.setIfInBounds i true) (a.put dst v) w) : wpAnyL P md ops Q S z (fuel + 1) listed a w := by
  subst hd
  exact wpAnyL_takeY hi hs hf hr hiz hQ hy hS h

/-- As 'wpAnyL_take', the slot written out. -/
theorem wpAnyL_takeR {i : Nat} {oi : Oper} {v : Value} (dst : Option Tmp) {fuel : Nat} {listed : Array Bool} {a : Act} {w : World} (hi : ops[i]? = some oi) (hd : oi.dst = dst)
    (hs : Region.noSelect ops = true) (hf : Region.free md ops listed i = true) (hr : (Region.ready md ops listed).contains i = true) (hz : Waits md ops z i = true) (hiz : i ≠ z) (hls : listed.getD z true = false)
    (hQ : ∀ c a w, Q (.panic c) (a.put dst v) w → Q (.panic c) a w) (hy : YieldsIf P ops S oi v a) (hS : S w)
    (h : wpAnyL P md ops Q S z fuel (listed.setIfInBounds i true) (a.put dst v) w) : wpAnyL P md ops Q S z (fuel + 1) listed a w := by
  subst hd
  exact wpAnyL_take hi hs hf hr hz hiz hls hQ hy hS h

/-- An operation that is wanted, its slot written out. -/
theorem wpOp_law {i : Nat} {o : Oper} {K : Act → World → Prop} {a : Act} {w : World} (ho : ops[i]? = some o) (hgd : o.guard = none) (h : o.wp P a w K Q) : wpOp P ops Q i K a w := by
  unfold wpOp
  rw [ho]
  have hw : Region.wanted o (yielded ops a.tmps) = true := by simp [Region.wanted, hgd]
  show if Region.wanted o (yielded ops a.tmps) = true then _ else _
  rw [if_pos hw]
  exact .inl h

/-- The beginning. -/
theorem wp_region_late {id : Nat} {a : Act} {w : World} (hm : P.follows .mixedOrders = true)
    (h : wpAnyL P .any ops Q S z ops.size (Array.replicate ops.size false) a { w with drawn := w.drawn + 1 }) : (Code.region id ops true).wp P Q a w :=
  wp_region_any hm (wpAny_of_late _ _ _ _ h)
end
end Go.Proofs.Qxb6003797a
