/-
  ZZnewAddr and AsSlice, walked.
-/
import Derived.Test.Qxb6632291aRows
import Derived.WalkKit
import Derived.WalkSpells
import Derived.WalkLawsBesides
import Derived.BigRegion
import Derived.BigQuiet
namespace Go.Proofs.Qxb6632291a
open Go.RowKit

set_option maxHeartbeats 400000 in
theorem new_any (hi lo fam : Int) (w : World) :
    Calls Try.prog 5 #[.int .u64 hi, .int .u64 lo, .int .u8 fam] w fun e w' => e = .returned (.agg #[.int .u64 hi, .int .u64 lo, .int .u8 fam]) ∧ w' = w.alloc (.cells #[.int .u64 hi, .int .u64 lo, .int .u8 fam] 27) := by
  go_enter Try.func5, Try.ntmps5
  go_wp2
  exact bodyPost_ret (v := .agg #[.int .u64 hi, .int .u64 lo, .int .u8 fam]) (by simp [results, Try.results5, go_sem]) rfl ⟨rfl, rfl⟩

/-- byte i of a 64-bit number, the greatest first -/
def byteAt (x : Int) (i : Nat) : Int := x / 2 ^ (56 - 8 * i) % 256
/-- what cell j of the array holds when k rounds are over -/
def cellAt (hi lo : Int) (k j : Nat) : Int := if j < 8 then (if j < k then byteAt hi j else 0) else (if j < 8 + k then byteAt lo (j - 8) else 0)

/-- what stands when k rounds are over: the receiver's box, the array's cells, and what lay before -/
def Mid (w : World) (hi lo fam : Int) (k : Nat) (wr : World) : Prop :=
  wr.cell? ⟨w.heap.size, 0, none⟩ = some (.int .u64 hi) ∧ wr.cell? ⟨w.heap.size, 1, none⟩ = some (.int .u64 lo) ∧ wr.cell? ⟨w.heap.size, 2, none⟩ = some (.int .u8 fam) ∧
    (∀ j, j < 16 → wr.cell? ⟨w.heap.size + 1, j, none⟩ = some (.int .u8 (cellAt hi lo k j))) ∧ (∀ j, j < 16 → wr.frozen? ⟨w.heap.size + 1, j, none⟩ = false) ∧ Below w.heap.size w wr ∧ Grown w wr ∧ wr.heap.size = w.heap.size + 2

theorem Mid.start (w : World) (hi lo fam : Int) :
    Mid w hi lo fam 0 ((w.alloc (.cells #[.int .u64 hi, .int .u64 lo, .int .u8 fam] 27)).alloc (.cells #[.int .u8 0, .int .u8 0, .int .u8 0, .int .u8 0, .int .u8 0, .int .u8 0, .int .u8 0, .int .u8 0, .int .u8 0, .int .u8 0, .int .u8 0, .int .u8 0, .int .u8 0, .int .u8 0, .int .u8 0, .int .u8 0] 36)) := by
  refine ⟨by simp, by simp, by simp, fun j hj => ?_, fun j hj => ?_, ?_, Grown.alloc (Grown.alloc (Grown.refl _) _ _) _ _, by simp⟩
  · rw [World.cell?_alloc2_new]
    have e : cellAt hi lo 0 j = 0 := by unfold cellAt; by_cases h : j < 8 <;> simp [h]
    rw [e]
    rcases j with _ | _ | _ | _ | _ | _ | _ | _ | _ | _ | _ | _ | _ | _ | _ | _ | j <;> first | rfl | omega
  · exact World.frozen?_alloc_at _ _ _ _ (by simp)
  · exact ((Below.refl _ _).alloc (Nat.le_refl _) _).alloc (by simp) _

theorem Mid.step {w wr : World} {hi lo fam : Int} {k : Nat} (h : Mid w hi lo fam k wr) (hk : k < 8) :
    Mid w hi lo fam (k + 1) ((wr.setCell ⟨w.heap.size + 1, k, none⟩ (.int .u8 (byteAt hi k))).setCell ⟨w.heap.size + 1, 8 + k, none⟩ (.int .u8 (byteAt lo k))).drew := by
  obtain ⟨c0, c1, c2, hc, hf, hb, hg, hz⟩ := h
  have ho : ∀ (W : World) (o i : Nat) (v : Value), (W.setCell ⟨w.heap.size + 1, o, none⟩ v).cell? ⟨w.heap.size, i, none⟩ = W.cell? ⟨w.heap.size, i, none⟩ := fun W o i v => World.cell?_setCell_other W _ _ v (by simp)
  refine ⟨?_, ?_, ?_, fun j hj => ?_, fun j hj => ?_, ?_, ?_, ?_⟩
  · rw [World.cell?_drew, ho, ho]; exact c0
  · rw [World.cell?_drew, ho, ho]; exact c1
  · rw [World.cell?_drew, ho, ho]; exact c2
  · rw [World.cell?_drew]
    by_cases e1 : j = 8 + k
    · subst e1
      have x : (wr.setCell ⟨w.heap.size + 1, k, none⟩ (.int .u8 (byteAt hi k))).cell? ⟨w.heap.size + 1, 8 + k, none⟩ = wr.cell? ⟨w.heap.size + 1, 8 + k, none⟩ := World.cell?_setCell_other _ _ _ _ (by simp)
      rw [World.cell?_setCell_same' _ _ _ (by rw [x, hc _ hj]; rfl)]
      unfold cellAt
      rw [if_neg (by omega), if_pos (by omega), show 8 + k - 8 = k by omega]
    · rw [World.cell?_setCell_other _ _ _ _ (fun h => e1 (by cases h; rfl))]
      by_cases e2 : j = k
      · subst e2
        rw [World.cell?_setCell_same' _ _ _ (by rw [hc _ hj]; rfl)]
        unfold cellAt
        rw [if_pos hk, if_pos (by omega)]
      · rw [World.cell?_setCell_other _ _ _ _ (fun h => e2 (by cases h; rfl)), hc j hj]
        unfold cellAt
        by_cases h8 : j < 8
        · rw [if_pos h8, if_pos h8]
          by_cases h9 : j < k
          · rw [if_pos h9, if_pos (by omega)]
          · rw [if_neg h9, if_neg (by omega)]
        · rw [if_neg h8, if_neg h8]
          by_cases h9 : j < 8 + k
          · rw [if_pos h9, if_pos (by omega)]
          · rw [if_neg h9, if_neg (by omega)]
  · rw [World.frozen?_drew, World.frozen?_setCell, World.frozen?_setCell]; exact hf j hj
  · exact ((hb.setCell (by simp) _).setCell (by simp) _).drew
  · exact ((hg.setCell (by simp) _).setCell (by simp) _).drew
  · simpa [World.setCell] using hz

set_option maxHeartbeats 1000000 in
theorem as_v6 (hi lo fam : Int) (w : World) (hfam : (fam == 0) = false) :
    Calls Try.prog 6 #[.agg #[.int .u64 hi, .int .u64 lo, .int .u8 fam]] w fun e w' => e = .returned (.slice (some ⟨w.heap.size + 1, 0, none⟩) 16 16) ∧ Mid w hi lo fam 8 w' := by
  go_enter Try.func6, Try.ntmps6
  go_wp2
  go_loopw [5] (fun i wr => ∃ k : Nat, k ≤ 8 ∧ i = .int .i64 k ∧ Mid w hi lo fam k wr) (fun i _ => 8 - (intOf i).toNat)
  case atStart => exact ⟨0, by omega, rfl, Mid.start w hi lo fam⟩
  case round =>
    obtain ⟨k, hk, rfl, hM⟩ := hrel
    have hM0 := hM
    obtain ⟨c0, c1, c2, hc, hf, hb, hg, hz⟩ := hM
    by_cases hlt : k < 8
    · have g1 := hc k (by omega)
      have g2 := hc (8 + k) (by omega)
      have f1 := hf k (by omega)
      have f2 := hf (8 + k) (by omega)
      clear hc hf hb hg
      go_wp2
      go_region
      go_wp2
      go_roundw
      case rel => exact ⟨k + 1, by omega, by go_num, hM0.step hlt⟩
      case measure => simp [intOf]; omega
    · obtain rfl : k = 8 := by omega
      clear hc hf hb hg
      go_wp2
      go_ret
      exact ⟨rfl, hM0⟩
set_option maxHeartbeats 1000000 in
theorem as_v4 (hi lo : Int) (w : World) :
    Calls Try.prog 6 #[.agg #[.int .u64 hi, .int .u64 lo, .int .u8 0]] w fun e w' => e = .returned (.slice (some ⟨w.heap.size + 1, 12, none⟩) 4 4) ∧ Mid w hi lo 0 8 w' := by
  go_enter Try.func6, Try.ntmps6
  go_wp2
  go_loopw [5] (fun i wr => ∃ k : Nat, k ≤ 8 ∧ i = .int .i64 k ∧ Mid w hi lo 0 k wr) (fun i _ => 8 - (intOf i).toNat)
  case atStart => exact ⟨0, by omega, rfl, Mid.start w hi lo 0⟩
  case round =>
    obtain ⟨k, hk, rfl, hM⟩ := hrel
    have hM0 := hM
    obtain ⟨c0, c1, c2, hc, hf, hb, hg, hz⟩ := hM
    by_cases hlt : k < 8
    · have g1 := hc k (by omega)
      have g2 := hc (8 + k) (by omega)
      have f1 := hf k (by omega)
      have f2 := hf (8 + k) (by omega)
      clear hc hf hb hg
      go_wp2
      go_region
      go_wp2
      go_roundw
      case rel => exact ⟨k + 1, by omega, by go_num, hM0.step hlt⟩
      case measure => simp [intOf]; omega
    · obtain rfl : k = 8 := by omega
      clear hc hf hb hg
      go_wp2
      go_ret
      exact ⟨rfl, hM0⟩
end Go.Proofs.Qxb6632291a
