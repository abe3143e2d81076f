import Derived.Test.Qxb6605512aRows
import Derived.WalkKit
import Derived.WalkLawsBesides
import Derived.RowKit3
import Derived.Below
import Derived.Laws.IdiomStrings
import Derived.Laws.Concat
namespace Go.Proofs.Qxb6605512a
open Go.RowKit

/-- A string by its bytes. -/
def mk (l : List UInt8) : ByteArray := ⟨l.toArray⟩
theorem mk_size (l : List UInt8) : (mk l).size = l.length := rfl

/-- The block g holds the bytes L, open for writing. -/
def Buf (w : World) (g : Nat) (L : List UInt8) : Prop :=
  ∀ j (h : j < L.length), w.cell? ⟨g, j, none⟩ = some (.int .u8 (L[j].toNat : Int)) ∧ w.frozen? ⟨g, j, none⟩ = false

theorem Buf.at {w : World} {g j : Nat} {L : List UInt8} {x : UInt8} (h : Buf w g L) (hx : L[j]? = some x) : w.cell? ⟨g, j, none⟩ = some (.int .u8 (x.toNat : Int)) ∧ w.frozen? ⟨g, j, none⟩ = false := by
  obtain ⟨hj, rfl⟩ := List.getElem?_eq_some_iff.1 hx
  exact h j hj

theorem Buf.set {w : World} {g : Nat} {L : List UInt8} (h : Buf w g L) (i : Nat) (hi : i < L.length) (x : UInt8) : Buf (w.setCell ⟨g, i, none⟩ (.int .u8 (x.toNat : Int))) g (L.set i x) := by
  intro j hj
  have hj' : j < L.length := by simpa using hj
  rw [World.frozen?_setCell]
  refine ⟨?_, (h j hj').2⟩
  by_cases e : i = j
  · subst e
    rw [World.cell?_setCell_same _ _ _ (h i hi).1]
    simp
  · rw [World.cell?_setCell_other _ _ _ _ (by intro h; injection h with _ h; exact e h)]
    rw [(h j hj').1]
    simp [e]

theorem conv_in (w : World) (l : List UInt8) : ∃ cap w1, (convert 9 25 (.string (mk l))).run Try.prog w = .ok (.slice (some ⟨w.heap.size, 0, none⟩) l.length cap) w1 ∧ Buf w1 w.heap.size l ∧ Below w.heap.size w w1 ∧ w.heap.size < w1.heap.size := by
  refine ⟨_, _, run_bytes_of_string (P := Try.prog) w 9 25 5 (mk l) Try.underlying9 Try.underlying25 Try.underlying5, fun j hj => ?_, (Below.refl _ _).drew.alloc (Nat.le_refl _) _, by simp⟩
  have hs : w.drew.heap.size = w.heap.size := rfl
  constructor
  · rw [← hs, World.cell?_alloc_mark, bytesRow_at (mk l) _ j (by simpa [mk] using hj)]
    simp [mk]
  · rw [← hs, World.frozen?_alloc_mark]
    have : j < (bytesRow (mk l) (grownCap w (mk l).size 0 5)).size := by
      unfold bytesRow
      simp [mk]
      omega
    simp
    omega

theorem conv_out {w : World} {g : Nat} {L : List UInt8} (h : Buf w g L) (cap : Nat) : (convert 25 9 (.slice (some ⟨g, 0, none⟩) L.length cap)).run Try.prog w = .ok (.string (mk L)) w :=
  run_convert_bytes_back (P := Try.prog) w 25 9 5 ⟨g, 0, none⟩ cap L Try.underlying25 Try.underlying5 Try.underlying9 (fun j hj => by
    rw [Go.WideShapes.add_plain, Nat.zero_add]
    exact (h j hj).1)

/-- p, then d, then k bytes of which the last j are b, the others a. -/
def rn (p : List UInt8) (d a b : UInt8) (k j : Nat) : List UInt8 := p ++ d :: (List.replicate (k - j) a ++ List.replicate j b)
theorem rn_len (p : List UInt8) (d a b : UInt8) (k j : Nat) (h : j ≤ k) : (rn p d a b k j).length = p.length + 1 + k := by
  simp [rn]; omega
theorem rn_set (p : List UInt8) (d a b : UInt8) (k j : Nat) (h : j < k) : (rn p d a b k j).set (p.length + (k - j)) b = rn p d a b k (j + 1) := by
  obtain ⟨m, hm⟩ : ∃ m, k - j = m + 1 := ⟨k - j - 1, by omega⟩
  have hm' : k - (j + 1) = m := by omega
  unfold rn
  rw [hm, hm', List.set_append_right _ _ (by omega), show p.length + (m + 1) - p.length = m + 1 by omega, List.set_cons_succ, List.replicate_succ', List.append_assoc, List.set_append_right _ _ (by simp)]
  simp [List.replicate_succ]
theorem rn_at (p : List UInt8) (d a b : UInt8) (k j : Nat) (h : j < k) : (rn p d a b k j)[p.length + (k - j)]? = some a := by
  obtain ⟨m, hm⟩ : ∃ m, k - j = m + 1 := ⟨k - j - 1, by omega⟩
  unfold rn
  rw [hm, List.getElem?_append_right (by omega), show p.length + (m + 1) - p.length = m + 1 by omega, List.getElem?_cons_succ, List.getElem?_append_left (by simp)]
  simp
theorem rn_end (p : List UInt8) (d a b : UInt8) (k j : Nat) : (rn p d a b k j)[p.length]? = some d := by simp [rn]
theorem rn_put (p : List UInt8) (d a b x : UInt8) (k : Nat) : (rn p d a b k k).set p.length x = p ++ x :: List.replicate k b := by simp [rn]
theorem rn_0 (p : List UInt8) (d a b : UInt8) (k : Nat) : rn p d a b k 0 = p ++ d :: List.replicate k a := by simp [rn]

def SP (w : World) (q : ByteArray) (e : Ending) (w' : World) : Prop := e = .returned (.string q) ∧ Below w.heap.size w w'

set_option maxHeartbeats 3200000 in
theorem decrement (w : World) (p : List UInt8) (d : UInt8) (k : Nat) (hd : 48 < d.toNat) (hn : p.length + 1 + k ≤ 10000000) :
    Calls Try.prog 9 #[.string (mk (p ++ d :: List.replicate k 48))] w (SP w (mk (p ++ (d - 1) :: List.replicate k 57))) := by
  obtain ⟨cap, w1, hcv, hbuf, hbel, hlt⟩ := conv_in w (p ++ d :: List.replicate k 48)
  have hlen : (p ++ d :: List.replicate k 48).length = p.length + 1 + k := by simp; omega
  rw [hlen] at hcv
  rw [← rn_0 p d 48 57 k] at hbuf
  have hd1 : ((d - 1).toNat : Int) = (d.toNat : Int) - 1 := by
    have : (1 : UInt8) ≤ d := by rw [UInt8.le_iff_toNat_le]; simp; omega
    rw [UInt8.toNat_sub_of_le _ _ this]
    simp
    omega
  have hd2 := d.toNat_lt
  go_enter Try.func9, Try.ntmps9
  go_wp2_with fail
  go_loopw [4] (fun i wr => ∃ j : Nat, j ≤ k ∧ i = .int .i64 ((p.length + (k - j) : Nat) : Int) ∧ Buf wr w.heap.size (rn p d 48 57 k j) ∧ Below w.heap.size w wr) (fun i _ => (intOf i).toNat)
  case atStart => exact ⟨0, Nat.zero_le _, by go_num, hbuf, hbel⟩
  case round =>
    obtain ⟨j, hj, rfl, hB, hbl⟩ := hrel
    have i1 : (0 : Int) ≤ ((p.length + (k - j) : Nat) : Int) := Int.natCast_nonneg _
    have i2 : ((p.length + (k - j) : Nat) : Int) < ((p.length + 1 + k : Nat) : Int) := by omega
    by_cases hjk : j < k
    · have cj := hB.at (rn_at p d 48 57 k j hjk)
      have hB2 := hB.set (p.length + (k - j)) (by rw [rn_len _ _ _ _ _ _ hj]; omega) 57
      rw [rn_set _ _ _ _ _ _ hjk] at hB2
      obtain ⟨c1, c2⟩ := cj
      clear hcv
      go_wp2
      go_roundw
      case rel => exact ⟨j + 1, by omega, by rw [show (p.length : Int) + ((k - j : Nat) : Int) - 1 = ((p.length + (k - (j + 1)) : Nat) : Int) by omega], hB2, hbl.setCell (Nat.le_refl _) _⟩
      case measure => simp [intOf]; omega
    · obtain rfl : j = k := by omega
      obtain ⟨c1, c2⟩ := hB.at (rn_end p d 48 57 j j)
      have hne : ((d.toNat : Int) == 48) = false := by simp; omega
      have hB2 := hB.set p.length (by rw [rn_len _ _ _ _ _ _ hj]; omega) (d - 1)
      rw [rn_put, hd1] at hB2
      have hback := conv_out hB2 cap
      have hl2 : (p ++ (d - 1) :: List.replicate j 57).length = p.length + 1 + j := by simp; omega
      rw [hl2] at hback
      have hbl2 := hbl.setCell (p := ⟨w.heap.size, p.length, none⟩) (Nat.le_refl _) (.int .u8 ((d.toNat : Int) - 1))
      clear hcv hB hB2 hbuf
      go_wp2
      go_ret
      exact ⟨rfl, hbl2⟩

set_option maxHeartbeats 3200000 in
theorem increment (w : World) (p : List UInt8) (d : UInt8) (k : Nat) (hd : d.toNat < 57) (hn : p.length + 1 + k ≤ 10000000) :
    Calls Try.prog 8 #[.string (mk (p ++ d :: List.replicate k 57))] w (SP w (mk (p ++ (d + 1) :: List.replicate k 48))) := by
  obtain ⟨cap, w1, hcv, hbuf, hbel, hlt⟩ := conv_in w (p ++ d :: List.replicate k 57)
  have hlen : (p ++ d :: List.replicate k 57).length = p.length + 1 + k := by simp; omega
  rw [hlen] at hcv
  rw [← rn_0 p d 57 48 k] at hbuf
  have hd1 : ((d + 1).toNat : Int) = (d.toNat : Int) + 1 := by
    rw [UInt8.toNat_add]
    simp
    omega
  go_enter Try.func8, Try.ntmps8
  go_wp2_with fail
  go_loopw [4] (fun i wr => ∃ j : Nat, j ≤ k ∧ i = .int .i64 ((p.length + (k - j) : Nat) : Int) ∧ Buf wr w.heap.size (rn p d 57 48 k j) ∧ Below w.heap.size w wr) (fun i _ => (intOf i).toNat)
  case atStart => exact ⟨0, Nat.zero_le _, by go_num, hbuf, hbel⟩
  case round =>
    obtain ⟨j, hj, rfl, hB, hbl⟩ := hrel
    have i1 : (0 : Int) ≤ ((p.length + (k - j) : Nat) : Int) := Int.natCast_nonneg _
    have i2 : ((p.length + (k - j) : Nat) : Int) < ((p.length + 1 + k : Nat) : Int) := by omega
    by_cases hjk : j < k
    · have cj := hB.at (rn_at p d 57 48 k j hjk)
      have hB2 := hB.set (p.length + (k - j)) (by rw [rn_len _ _ _ _ _ _ hj]; omega) 48
      rw [rn_set _ _ _ _ _ _ hjk] at hB2
      obtain ⟨c1, c2⟩ := cj
      clear hcv
      go_wp2
      go_roundw
      case rel => exact ⟨j + 1, by omega, by rw [show (p.length : Int) + ((k - j : Nat) : Int) - 1 = ((p.length + (k - (j + 1)) : Nat) : Int) by omega], hB2, hbl.setCell (Nat.le_refl _) _⟩
      case measure => simp [intOf]; omega
    · obtain rfl : j = k := by omega
      obtain ⟨c1, c2⟩ := hB.at (rn_end p d 57 48 j j)
      have hne : ((d.toNat : Int) == 57) = false := by simp; omega
      have hB2 := hB.set p.length (by rw [rn_len _ _ _ _ _ _ hj]; omega) (d + 1)
      rw [rn_put, hd1] at hB2
      have hback := conv_out hB2 cap
      have hl2 : (p ++ (d + 1) :: List.replicate j 48).length = p.length + 1 + j := by simp; omega
      rw [hl2] at hback
      have hbl2 := hbl.setCell (p := ⟨w.heap.size, p.length, none⟩) (Nat.le_refl _) (.int .u8 ((d.toNat : Int) + 1))
      clear hcv hB hB2 hbuf
      go_wp2
      go_ret
      exact ⟨rfl, hbl2⟩

/-- n bytes of which the last j are 48, the others 57. -/
def nn (n j : Nat) : List UInt8 := List.replicate (n - j) 57 ++ List.replicate j 48
theorem nn_len (n j : Nat) (h : j ≤ n) : (nn n j).length = n := by simp [nn]; omega
theorem nn_at (n j : Nat) (h : j < n) : (nn n j)[n - j - 1]? = some 57 := by
  unfold nn
  rw [List.getElem?_append_left (by simp; omega), List.getElem?_replicate, if_pos (by omega)]
theorem nn_set (n j : Nat) (h : j < n) : (nn n j).set (n - j - 1) 48 = nn n (j + 1) := by
  obtain ⟨m, hm⟩ : ∃ m, n - j = m + 1 := ⟨n - j - 1, by omega⟩
  have hm' : n - (j + 1) = m := by omega
  unfold nn
  rw [hm, hm', List.replicate_succ', List.append_assoc, List.set_append_right _ _ (by simp)]
  simp [List.replicate_succ]

set_option maxHeartbeats 3200000 in
theorem increment_nines (w : World) (n : Nat) (hn : n ≤ 10000000) :
    Calls Try.prog 8 #[.string (mk (List.replicate n 57))] w (SP w (mk (49 :: List.replicate n 48))) := by
  obtain ⟨cap, w1, hcv, hbuf, hbel, hlt⟩ := conv_in w (List.replicate n 57)
  rw [List.length_replicate] at hcv
  have hb0 : Buf w1 w.heap.size (nn n 0) := by simpa [nn] using hbuf
  go_enter Try.func8, Try.ntmps8
  go_wp2_with fail
  go_loopw [4] (fun i wr => ∃ j : Nat, j ≤ n ∧ i = .int .i64 ((n : Int) - 1 - j) ∧ Buf wr w.heap.size (nn n j) ∧ Below w.heap.size w wr) (fun i _ => (intOf i + 1).toNat)
  case atStart => exact ⟨0, Nat.zero_le _, by go_num, hb0, hbel⟩
  case round =>
    obtain ⟨j, hj, rfl, hB, hbl⟩ := hrel
    by_cases hjn : j < n
    · obtain ⟨q, hq⟩ : ∃ q : Nat, q = n - j - 1 := ⟨_, rfl⟩
      have hqi : (n : Int) - 1 - j = (q : Int) := by omega
      have cj := hB.at (nn_at n j hjn)
      have hB2 := hB.set (n - j - 1) (by rw [nn_len _ _ hj]; omega) 48
      rw [nn_set _ _ hjn] at hB2
      rw [← hq] at cj hB2
      obtain ⟨c1, c2⟩ := cj
      have i1 : (0 : Int) ≤ (q : Int) := Int.natCast_nonneg _
      have i2 : (q : Int) < (n : Int) := by omega
      have hq1 : (q : Int) - 1 = (n : Int) - 1 - ((j + 1 : Nat) : Int) := by omega
      rw [hqi]
      clear hcv hbuf hq hqi
      go_wp2
      go_roundw
      case rel => exact ⟨j + 1, by omega, by go_num, hB2, hbl.setCell (Nat.le_refl _) _⟩
      case measure => simp [intOf]; omega
    · obtain rfl : j = n := by omega
      have hnn : nn j j = List.replicate j 48 := by simp [nn]
      rw [hnn] at hB
      have hback := conv_out hB cap
      rw [List.length_replicate] at hback
      have hadd : (Op.stringOp .add ⟨#[49]⟩ (mk (List.replicate j 48))).run Try.prog wr = .ok (.string (mk (49 :: List.replicate j 48))) wr := by
        rw [run_string_add_sum _ _ _ (by rw [mk_size, List.length_replicate]; show 1 + j ≤ _; omega)]
        unfold mk
        rw [show (⟨#[49]⟩ : ByteArray) = ⟨[49].toArray⟩ from rfl, ByteArray.mk_append_mk]
        simp
      clear hcv hbuf hB hb0
      go_wp2
      go_ret
      exact ⟨rfl, hbl⟩
end Go.Proofs.Qxb6605512a
