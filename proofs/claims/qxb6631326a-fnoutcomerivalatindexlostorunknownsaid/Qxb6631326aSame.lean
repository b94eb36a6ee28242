/-
  slices.Equal, the closure sameIDs and bytes.Equal over this program.
-/
import Derived.Test.Qxb6631326aSorted
import Derived.Lib.Bytes
import Derived.Laws.BytesArg
namespace Go.Proofs.Qxb6631326a
open Go.RowKit

/-- are the two lists one? -/
def sameB (a b : List Int) : Bool := decide (a = b)
theorem sameB_len (a b : List Int) (h : a.length ≠ b.length) : sameB a b = false := decide_eq_false fun e => h (by rw [e])
theorem sameB_at (a b : List Int) (k : Nat) (h : a[k]?.getD 0 ≠ b[k]?.getD 0) : sameB a b = false := decide_eq_false fun e => h (by rw [e])
theorem sameB_all (a b : List Int) (hl : a.length = b.length) (h : ∀ j, j < a.length → a[j]?.getD 0 = b[j]?.getD 0) : sameB a b = true := by
  refine decide_eq_true (List.ext_getElem hl fun i h1 h2 => ?_)
  have := h i h1
  simpa [List.getElem?_eq_getElem h1, List.getElem?_eq_getElem h2] using this
theorem ret_b {a b : Bool} (h : a = b) : Ending.returned (.bool a) = .returned (.bool b) := by rw [h]
theorem drw2 (w : World) (a b : Nat) : (w.drewN a).drewN b = w.drewN (a + b) := by simp
theorem same_next (f g : Nat → Int) (k : Nat) (h : ∀ j, j < k → f j = g j) (hk : f k = g k) : Hid (∀ j, j < k + 1 → f j = g j) := by
  intro j hj
  rcases Nat.lt_or_ge j k with h1 | h1
  · exact h j h1
  · obtain rfl : j = k := by omega
    exact hk

set_option maxHeartbeats 1000000 in
theorem equal_loop (b1 o1 c1 b2 o2 c2 n : Nat) (f g : Nat → Int) (w : World) (hn : n ≤ 1000000) (r : Bool)
    (hf : ∀ i, i < n → w.cell? ⟨b1, o1 + i, none⟩ = some (.int .u64 (f i))) (hg : ∀ i, i < n → w.cell? ⟨b2, o2 + i, none⟩ = some (.int .u64 (g i)))
    (hyes : (∀ j, j < n → f j = g j) → r = true) (hno : ∀ k, k < n → f k ≠ g k → r = false) :
    Calls Try.prog 14 #[.slice (some ⟨b1, o1, none⟩) n c1, .slice (some ⟨b2, o2, none⟩) n c2] w fun e w' => e = .returned (.bool r) ∧ ∃ q, w' = w.drewN q := by
  have HF : Hid (∀ i, i < n → w.cell? ⟨b1, o1 + i, none⟩ = some (.int .u64 (f i))) := hf
  have HG : Hid (∀ i, i < n → w.cell? ⟨b2, o2 + i, none⟩ = some (.int .u64 (g i))) := hg
  have HY : Hid ((∀ j, j < n → f j = g j) → r = true) := hyes
  have HN : Hid (∀ k, k < n → f k ≠ g k → r = false) := hno
  clear hf hg hyes hno
  go_enter Try.func14, Try.ntmps14
  go_wp2
  go_loopw [13] (fun i wr => ∃ k : Nat, k ≤ n ∧ i = .int .i64 k ∧ Hid (∀ j, j < k → f j = g j) ∧ ∃ q, wr = w.drewN q) (fun i _ => n - (intOf i).toNat)
  case atStart => exact ⟨0, by omega, rfl, fun j hj => absurd hj (by omega), 0, rfl⟩
  case round =>
    obtain ⟨k, hk, rfl, hs, q, rfl⟩ := hrel
    by_cases hlt : k < n
    · have g1 := HF.out k hlt
      have g2 := HG.out k hlt
      have hI : (k : Int) < (n : Int) := by omega
      by_cases d1 : f k = g k
      · have e1 : (f k != g k) = false := by simp [d1]
        have D1 : Hid (f k = g k) := d1
        clear d1
        go_wp2
        go_quiet (fail)
        go_wp2
        go_roundw
        case rel => exact ⟨k + 1, by omega, by go_num, same_next f g k hs.out D1.out, _, by first | rfl | exact drw2 _ _ _⟩
        case measure => simp [intOf]; omega
      · have e1 : (f k != g k) = true := by simpa using d1
        have D1 : Hid (f k ≠ g k) := d1
        clear d1
        go_wp2
        go_quiet (fail)
        go_wp2
        go_ret
        exact ⟨ret_b (HN.out k hlt D1.out).symm, _, by first | rfl | exact drw2 _ _ _⟩
    · go_wp2
      go_ret
      exact ⟨ret_b (HY.out (fun j hj => hs.out j (by omega))).symm, q, rfl⟩

set_option maxHeartbeats 400000 in
theorem equal_diff (a1 a2 : Option Addr) (l1 c1 l2 c2 : Nat) (w : World) (_h1 : l1 ≤ 1000000) (_h2 : l2 ≤ 1000000) (h : l1 ≠ l2) :
    Calls Try.prog 14 #[.slice a1 l1 c1, .slice a2 l2 c2] w fun e w' => e = .returned (.bool false) ∧ w' = w := by
  have hb : ((l1 : Int) != (l2 : Int)) = true := by simp; omega
  clear h
  go_enter Try.func14, Try.ntmps14
  go_wp2
  go_ret
  exact ⟨rfl, rfl⟩
set_option maxHeartbeats 400000 in
theorem equal_none (a1 a2 : Option Addr) (c1 c2 : Nat) (w : World) :
    Calls Try.prog 14 #[.slice a1 0 c1, .slice a2 0 c2] w fun e w' => e = .returned (.bool true) ∧ w' = w := by
  go_enter Try.func14, Try.ntmps14
  go_wp2
  refine wp_loop_rounds 1 ?_
  rw [rounds_succ]
  go_wp2
  go_ret
  exact ⟨rfl, rfl⟩

/-- the shape of a slice that holds zs -/
theorem Ints.shape {n₀ : Nat} {W : World} {sv : Value} {zs : List Int} (h : Ints n₀ W sv zs) : ∃ a cap, sv = .slice a zs.length cap := by
  rcases h with ⟨a, cap, rfl, rfl⟩ | ⟨b, off, cap, rfl, _, _⟩
  · exact ⟨a, cap, rfl⟩
  · exact ⟨_, cap, rfl⟩

theorem equal_any (v1 v2 : Value) (z1 z2 : List Int) (w : World) (n1 n2 : Nat) (h1 : Ints n1 w v1 z1) (h2 : Ints n2 w v2 z2) (k1 : z1.length ≤ 1000000) (k2 : z2.length ≤ 1000000) :
    Calls Try.prog 14 #[v1, v2] w fun e w' => e = .returned (.bool (sameB z1 z2)) ∧ ∃ q, w' = w.drewN q := by
  by_cases hl : z1.length = z2.length
  · rcases h1 with ⟨a, cap, rfl, rfl⟩ | ⟨b1, o1, c1, rfl, _, hc1⟩
    · obtain ⟨a2, cap2, rfl⟩ := h2.shape
      have e2 : z2.length = 0 := by simpa using hl.symm
      have : z2 = [] := List.eq_nil_of_length_eq_zero e2
      subst this
      exact (equal_none a a2 cap cap2 w).mono fun e w' ⟨he, hw⟩ => ⟨he, 0, hw⟩
    · rcases h2 with ⟨a, cap, rfl, rfl⟩ | ⟨b2, o2, c2, rfl, _, hc2⟩
      · have : z1 = [] := List.eq_nil_of_length_eq_zero (by simpa using hl)
        subst this
        exact (equal_none _ a c1 cap w).mono fun e w' ⟨he, hw⟩ => ⟨he, 0, hw⟩
      · rw [← hl] at hc2 ⊢
        exact equal_loop b1 o1 c1 b2 o2 c2 z1.length (fun j => z1[j]?.getD 0) (fun j => z2[j]?.getD 0) w k1 _ hc1 hc2 (fun h => sameB_all z1 z2 hl h) (fun k _ h => sameB_at z1 z2 k h)
  · obtain ⟨a1, cap1, rfl⟩ := h1.shape
    obtain ⟨a2, cap2, rfl⟩ := h2.shape
    rw [sameB_len z1 z2 hl]
    exact (equal_diff a1 a2 _ cap1 _ cap2 w k1 k2 hl).mono fun e w' ⟨he, hw⟩ => ⟨he, 0, hw⟩

theorem below_drewN {B : Nat} {a w : World} (h : Below B a w) (q : Nat) : Below B a (w.drewN q) := ⟨h.os, h.tape, h.output, h.size, h.block⟩

set_option maxHeartbeats 1000000 in
/-- sameIDs: do the two lists hold the same numbers, in whatever order? -/
theorem ids_any (a1 a2 : Option Addr) (l1 c1 l2 c2 : Nat) (z1 z2 : List Int) (w : World) (h1 : Ints w.heap.size w (.slice a1 l1 c1) z1) (h2 : Ints w.heap.size w (.slice a2 l2 c2) z2) (k1 : z1.length ≤ 1000000) (k2 : z2.length ≤ 1000000) :
    Calls Try.prog 13 #[.slice a1 l1 c1, .slice a2 l2 c2] w fun e w' => e = .returned (.bool (sameB (srt z1) (srt z2))) ∧ Below w.heap.size w w' := by
  go_enter Try.func13, Try.ntmps13
  go_wp2_with fail
  refine (values_any _ _ _ _).mono ?_
  rintro e w' ⟨rfl, rfl⟩
  have hB1 : Below w.heap.size w (w.alloc (.cells #[.slice a1 l1 c1] 22)) := (Below.refl _ w).alloc (Nat.le_refl _) _
  go_wp2_with fail
  refine (sorted_any w.heap.size (.slice a1 l1 c1) z1 k1 _ (by simp) (by simp) ((h1.below hB1).mono (by simp))).mono ?_
  rintro e w2 ⟨v1, rfl, hI1, hB2⟩
  have hB : Below w.heap.size w w2 := hB1.trans (hB2.mono (by simp))
  clear hB1 hB2
  obtain ⟨p1, q1, rfl⟩ := hI1.shape
  go_wp2_with fail
  refine (values_any _ _ _ _).mono ?_
  rintro e w' ⟨rfl, rfl⟩
  have hB3 : Below w2.heap.size w2 (w2.alloc (.cells #[.slice a2 l2 c2] 22)) := (Below.refl _ w2).alloc (Nat.le_refl _) _
  go_wp2_with fail
  refine (sorted_any w2.heap.size (.slice a2 l2 c2) z2 k2 _ (by simp) (by simp) (((h2.below hB).below (hB3.mono hB.size)).mono (by have := hB.size; simp; omega))).mono ?_
  rintro e w4 ⟨v2, rfl, hI2, hB4⟩
  have hB5 : Below w2.heap.size w2 w4 := hB3.trans (hB4.mono (by simp))
  obtain ⟨p2, q2, rfl⟩ := hI2.shape
  have hB6 : Below w.heap.size w w4 := hB.trans (hB5.mono hB.size)
  have hI3 := hI1.below hB5
  clear h1 h2 hB hB3 hB4 hB5 hI1
  go_wp2_with fail
  refine (equal_any _ _ (srt z1) (srt z2) _ _ _ hI3 hI2 (by rw [srt_length]; exact k1) (by rw [srt_length]; exact k2)).mono ?_
  rintro e w5 ⟨rfl, q, rfl⟩
  go_wp2
  go_ret
  exact ⟨rfl, below_drewN hB6 q⟩
end Go.Proofs.Qxb6631326a
