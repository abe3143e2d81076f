import Derived.Test.Qxb6605512aInc
namespace Go.Proofs.Qxb6605512a
open Go.RowKit

theorem zzDec (w : World) (r q : ByteArray) (h : ∀ w, Calls Try.prog 9 #[.string r] w (SP w q)) : Calls Try.prog 7 #[.string r] w (SP w q) := by
  go_enter Try.func7, Try.ntmps7
  go_wp2_with (go_at_call 9; refine (h w).mono ?_; rintro e w' ⟨rfl, hb⟩)
  go_ret
  exact ⟨rfl, hb⟩

theorem zzInc (w : World) (s r : ByteArray) (h : Calls Try.prog 8 #[.string s] w (SP w r)) : Calls Try.prog 6 #[.string s] w (SP w r) := by
  go_enter Try.func6, Try.ntmps6
  go_wp2_with (go_at_call 8; refine h.mono ?_; rintro e w' ⟨rfl, hb⟩)
  go_ret
  exact ⟨rfl, hb⟩

/-- All bytes are decimal digits. -/
def Dig (s : ByteArray) : Prop := ∀ j (h : j < s.size), 48 ≤ s[j].toNat ∧ s[j].toNat ≤ 57
def DigL (l : List UInt8) : Prop := ∀ x ∈ l, 48 ≤ x.toNat ∧ x.toNat ≤ 57
theorem mk_at (l : List UInt8) (j : Nat) (h : j < (mk l).size) : (mk l)[j] = l[j]'h := rfl
theorem dig_mk {l : List UInt8} : Dig (mk l) ↔ DigL l := by
  constructor
  · intro h x hx
    obtain ⟨j, hj, rfl⟩ := List.getElem_of_mem hx
    exact h j hj
  · intro h j hj
    exact h _ (List.getElem_mem (l := l) hj)

/-- A list of digits is all nines, or ends in nines behind a digit below nine. -/
theorem nines : ∀ (l : List UInt8), DigL l → l = List.replicate l.length 57 ∨ ∃ p d k, l = p ++ d :: List.replicate k 57 ∧ d.toNat < 57
  | [], _ => .inl rfl
  | x :: t, h => by
    rcases nines t (fun y hy => h y (List.mem_cons_of_mem _ hy)) with e | ⟨p, d, k, e, hd⟩
    · by_cases hx : x.toNat = 57
      · left
        have : x = 57 := by
          apply UInt8.toNat_inj.1
          simpa using hx
        rw [List.length_cons, List.replicate_succ, ← e, this]
      · right
        exact ⟨[], x, t.length, by rw [← e]; rfl, by have := (h x List.mem_cons_self).2; omega⟩
    · exact .inr ⟨x :: p, d, k, by rw [e]; rfl, hd⟩

/-- What the law has to know of increment's answer. -/
def IP (w : World) (s : ByteArray) (e : Ending) (w' : World) : Prop :=
  ∃ r q : ByteArray, e = .returned (.string r) ∧ Below w.heap.size w w' ∧ Dig r ∧ (∃ m, ∃ h : m < r.size, r[m].toNat ≠ 48) ∧ (∀ w, Calls Try.prog 7 #[.string r] w (SP w q)) ∧
    ((r.size = s.size ∧ q = s) ∨ (r.size = s.size + 1 ∧ (∃ h : 0 < r.size, r[0].toNat = 49) ∧ q = mk [48] ++ s))

theorem inc_any (w : World) (l : List UInt8) (h : DigL l) (hl : l.length ≤ 1048576) : Calls Try.prog 6 #[.string (mk l)] w (IP w (mk l)) := by
  have d48 : ∀ n, DigL (List.replicate n 48) := fun n x hx => by
    rw [(List.mem_replicate.1 hx).2]; decide
  rcases nines l h with e | ⟨p, d, k, rfl, hd⟩
  · refine (zzInc w _ _ (by rw [e]; exact increment_nines w l.length (by omega))).mono ?_
    rintro e' w' ⟨rfl, hb⟩
    refine ⟨_, _, rfl, hb, dig_mk.2 ?_, ⟨0, by rw [mk_size]; simp, by rw [mk_at]; show (49 : UInt8).toNat ≠ 48; decide⟩, fun w => zzDec w _ _ fun w => decrement w [] 49 l.length (by decide) (by simp; omega), .inr ⟨by simp [mk_size], ⟨by rw [mk_size]; simp, by rw [mk_at]; rfl⟩, ?_⟩⟩
    · intro x hx
      rcases List.mem_cons.1 hx with rfl | hx
      · decide
      · exact d48 _ x hx
    · rw [← e]
      simp only [mk, ByteArray.mk_append_mk]
      rfl
  · have hlen : p.length + 1 + k ≤ 1048576 := by simp at hl; omega
    have hd1 : (d + 1).toNat = d.toNat + 1 := by
      rw [UInt8.toNat_add]
      simp
      omega
    have hdd := h d (by simp)
    have hsub : d + 1 - 1 = d := by simp
    refine (zzInc w _ _ (increment w p d k hd (by omega))).mono ?_
    rintro e' w' ⟨rfl, hb⟩
    refine ⟨_, _, rfl, hb, dig_mk.2 ?_, ⟨p.length, by rw [mk_size]; simp, ?_⟩, fun w => zzDec w _ _ fun w => decrement w p (d + 1) k (by omega) (by omega), .inl ⟨by simp [mk_size], ?_⟩⟩
    · intro x hx
      rcases List.mem_append.1 hx with hx | hx
      · exact h x (by simp [hx])
      · rcases List.mem_cons.1 hx with rfl | hx
        · omega
        · exact d48 _ x hx
    · have e1 : (p ++ (d + 1) :: List.replicate k 48)[p.length]'(by simp) = d + 1 := by simp
      have e2 : (mk (p ++ (d + 1) :: List.replicate k 48))[p.length]'(by rw [mk_size]; simp) = d + 1 := e1
      rw [e2, hd1]
      omega
    · rw [hsub]

set_option maxHeartbeats 400000 in
theorem digit_yes (w : World) (x : Int) (h1 : 48 ≤ x) (h2 : x ≤ 57) : Calls Try.prog 5 #[.int .u8 x] w fun e w' => e = .returned (.bool true) ∧ w' = w := by
  go_enter Try.func5, Try.ntmps5
  go_wp2
  go_ret
  exact ⟨rfl, rfl⟩

set_option maxHeartbeats 400000 in
theorem digit_no (w : World) (x : Int) (h : ¬ (48 ≤ x ∧ x ≤ 57)) : Calls Try.prog 5 #[.int .u8 x] w fun e w' => e = .returned (.bool false) ∧ w' = w := by
  by_cases h1 : 48 ≤ x
  · have h2 : decide (x ≤ 57) = false := by simp; omega
    go_enter Try.func5, Try.ntmps5
    go_wp2
    go_ret
    exact ⟨rfl, rfl⟩
  · go_enter Try.func5, Try.ntmps5
    go_wp2
    go_ret
    exact ⟨rfl, rfl⟩

set_option maxHeartbeats 400000 in
theorem bytes_yes (w : World) (s : ByteArray) (h : s.size ≤ 1048576) : Calls Try.prog 4 #[.string s] w fun e w' => e = .returned (.bool true) ∧ w' = w := by
  go_enter Try.func4, Try.ntmps4
  go_wp2
  go_ret
  exact ⟨rfl, rfl⟩

set_option maxHeartbeats 400000 in
theorem bytes_no (w : World) (s : ByteArray) (h : 1048576 < s.size) (h1 : s.size ≤ 9223372036854775807) : Calls Try.prog 4 #[.string s] w fun e w' => e = .returned (.bool false) ∧ w' = w := by
  go_enter Try.func4, Try.ntmps4
  go_wp2
  go_ret
  exact ⟨rfl, rfl⟩

set_option maxHeartbeats 3200000 in
theorem incLaw (w : World) (s : ByteArray) (hm : s.size ≤ 9223372036854775807) :
    Calls Try.prog 3 #[.string s] w fun e w' => e = .returned (.bool true) ∧ Below w.heap.size w w' := by
  by_cases g0 : 1048576 < s.size
  · have HB := bytes_no w s g0 hm
    go_enter Try.func3, Try.ntmps3
    go_wp2_with (go_at_call 4; refine HB.mono ?_; rintro e w' ⟨rfl, rfl⟩)
    go_ret
    exact ⟨rfl, Below.refl _ _⟩
  have HB := bytes_yes w s (by omega)
  by_cases g1 : s.size = 0
  · have g2 : ((s.size : Int) == 0) = true := by simp [g1]
    go_enter Try.func3, Try.ntmps3
    go_wp2_with (go_at_call 4; refine HB.mono ?_; rintro e w' ⟨rfl, rfl⟩)
    go_ret
    exact ⟨rfl, Below.refl _ _⟩
  have g2 : ((s.size : Int) == 0) = false := by rw [beq_eq_false_iff_ne]; omega
  go_enter Try.func3, Try.ntmps3
  go_wp2_with fail
  refine HB.mono ?_
  rintro e w' ⟨rfl, rfl⟩
  go_wp2_with fail
  go_loop [3] (fun i => ∃ k : Nat, k ≤ s.size ∧ i = .int .i64 k ∧ ∀ j (h : j < s.size), j < k → 48 ≤ s[j].toNat ∧ s[j].toNat ≤ 57) (fun i => s.size - (intOf i).toNat)
  case atStart => exact ⟨0, Nat.zero_le _, rfl, fun j _ h => by omega⟩
  case round =>
    obtain ⟨k, hk, rfl, hno⟩ := hrel
    by_cases hkl : k < s.size
    · have i1 : (0 : Int) ≤ (k : Int) := Int.natCast_nonneg _
      have i2 : (k : Int) < (s.size : Int) := by omega
      by_cases hd : 48 ≤ s[k].toNat ∧ s[k].toNat ≤ 57
      · have HD := digit_yes w' (s[k].toNat : Int) (by omega) (by omega)
        go_wp2_with fail
        refine HD.mono ?_
        rintro e wd ⟨rfl, rfl⟩
        clear HD
        go_wp2_with fail
        go_round
        case rel => exact ⟨k + 1, by omega, by go_num, fun j h hjk => by
          by_cases e : j = k
          · subst e; exact hd
          · exact hno j h (by omega)⟩
        case measure => simp [intOf]; omega
      · have HD := digit_no w' (s[k].toNat : Int) (fun h => hd ⟨by omega, by omega⟩)
        go_wp2_with fail
        refine HD.mono ?_
        rintro e wd ⟨rfl, rfl⟩
        clear HD
        go_wp2
        go_ret
        exact ⟨rfl, Below.refl _ _⟩
    · have hdig : Dig s := fun j h => hno j h (by omega)
      obtain ⟨l, rfl⟩ : ∃ l, s = mk l := ⟨s.data.toList, by cases s; rfl⟩
      have HI := inc_any w' l (dig_mk.1 hdig) (by rw [mk_size] at g0; omega)
      generalize mk l = s at *
      clear hno HB
      go_wp2_with fail
      refine HI.mono ?_
      rintro e w2 ⟨r, q, rfl, f2, hr, ⟨m, hm1, hm2⟩, HD, hcase⟩
      clear HI
      have hrs : r.size ≤ 1048577 := by omega
      rcases hcase with ⟨hA, rfl⟩ | ⟨hA, ⟨h0, h49⟩, rfl⟩
      · have t1 : ((r.size : Int) != (q.size : Int)) = false := by simp; omega
        have t3 : ((r.size : Int) == (q.size : Int)) = true := by simp; omega
        have t4 : (q.toList == q.toList) = true := by simp
        go_wp2_with fail
        go_loop [6, 7] (fun z i => ∃ (k : Nat) (b : Bool), k ≤ r.size ∧ i = .int .i64 k ∧ z = .bool b ∧ (m < k → b = false)) (fun _ i => r.size - (intOf i).toNat)
        case atStart => exact ⟨0, true, Nat.zero_le _, rfl, rfl, fun h => by omega⟩
        case round =>
          obtain ⟨k2, b, hk2, rfl, rfl, hb2⟩ := hrel
          by_cases hkl2 : k2 < r.size
          · have i1 : (0 : Int) ≤ (k2 : Int) := Int.natCast_nonneg _
            have i2 : (k2 : Int) < (r.size : Int) := by omega
            obtain ⟨d1, d2⟩ := hr k2 hkl2
            have HD2 := digit_yes w2 (r[k2].toNat : Int) (by omega) (by omega)
            by_cases hz : r[k2].toNat = 48
            · have hz1 : ((r[k2].toNat : Int) != 48) = false := by simp [hz]
              rw [hz] at HD2
              clear hr
              go_wp2_with fail
              refine HD2.mono ?_
              rintro e wd ⟨rfl, rfl⟩
              clear HD2
              go_wp2_with fail
              go_round
              case rel => exact ⟨k2 + 1, b, by omega, by go_num, rfl, fun h => hb2 (by
                rcases Nat.lt_or_ge m k2 with h' | h'
                · exact h'
                · obtain rfl : m = k2 := by omega
                  exact absurd hz hm2)⟩
              case measure => simp [intOf]; omega
            · have hz1 : ((r[k2].toNat : Int) != 48) = true := by simp; omega
              clear hr
              go_wp2_with fail
              refine HD2.mono ?_
              rintro e wd ⟨rfl, rfl⟩
              clear HD2
              go_wp2_with fail
              go_round
              case rel => exact ⟨k2 + 1, false, by omega, by go_num, rfl, fun _ => rfl⟩
              case measure => simp [intOf]; omega
          · obtain rfl := hb2 (by omega)
            clear hr
            go_wp2_with fail
            refine (HD w2).mono ?_
            rintro e w3 ⟨rfl, f3⟩
            have f4 := f2.trans (f3.mono f2.size)
            clear HD
            go_wp2
            go_ret
            exact ⟨rfl, f4⟩
      · have t1 : ((r.size : Int) != (s.size : Int)) = true := by simp; omega
        have t2 : ((r.size : Int) != (s.size : Int) + 1) = false := by simp; omega
        have t3 : ((r.size : Int) == (s.size : Int)) = false := by simp; omega
        have t4 : ((mk [48] ++ s).toList == (mk [48] ++ s).toList) = true := by simp
        have t5 : ((r[0].toNat : Int) == 49) = true := by simp [h49]
        have t6 : (0 : Int) < (r.size : Int) := by omega
        have t7 : ∀ w, (Op.stringOp .add ⟨#[48]⟩ s).run Try.prog w = .ok (.string (mk [48] ++ s)) w := fun w => run_string_add_sum w _ _ (by show 1 + s.size ≤ _; omega)
        go_wp2_with fail
        go_loop [6, 7] (fun z i => ∃ (k : Nat) (b : Bool), k ≤ r.size ∧ i = .int .i64 k ∧ z = .bool b ∧ (m < k → b = false)) (fun _ i => r.size - (intOf i).toNat)
        case atStart => exact ⟨0, true, Nat.zero_le _, rfl, rfl, fun h => by omega⟩
        case round =>
          obtain ⟨k2, b, hk2, rfl, rfl, hb2⟩ := hrel
          by_cases hkl2 : k2 < r.size
          · have i1 : (0 : Int) ≤ (k2 : Int) := Int.natCast_nonneg _
            have i2 : (k2 : Int) < (r.size : Int) := by omega
            obtain ⟨d1, d2⟩ := hr k2 hkl2
            have HD2 := digit_yes w2 (r[k2].toNat : Int) (by omega) (by omega)
            by_cases hz : r[k2].toNat = 48
            · have hz1 : ((r[k2].toNat : Int) != 48) = false := by simp [hz]
              rw [hz] at HD2
              clear hr
              go_wp2_with fail
              refine HD2.mono ?_
              rintro e wd ⟨rfl, rfl⟩
              clear HD2
              go_wp2_with fail
              go_round
              case rel => exact ⟨k2 + 1, b, by omega, by go_num, rfl, fun h => hb2 (by
                rcases Nat.lt_or_ge m k2 with h' | h'
                · exact h'
                · obtain rfl : m = k2 := by omega
                  exact absurd hz hm2)⟩
              case measure => simp [intOf]; omega
            · have hz1 : ((r[k2].toNat : Int) != 48) = true := by simp; omega
              clear hr
              go_wp2_with fail
              refine HD2.mono ?_
              rintro e wd ⟨rfl, rfl⟩
              clear HD2
              go_wp2_with fail
              go_round
              case rel => exact ⟨k2 + 1, false, by omega, by go_num, rfl, fun _ => rfl⟩
              case measure => simp [intOf]; omega
          · obtain rfl := hb2 (by omega)
            clear hr
            go_wp2_with fail
            refine (HD w2).mono ?_
            rintro e w3 ⟨rfl, f3⟩
            have f4 := f2.trans (f3.mono f2.size)
            clear HD
            go_wp2
            go_ret
            exact ⟨rfl, f4⟩
end Go.Proofs.Qxb6605512a
