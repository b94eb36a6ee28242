/-
  What both laws of the seat lean on: the bound on lengths, the arguments' readings, plain facts on sorted lists.
-/
import Derived.Test.Qxb6631326aHelp
import Derived.OpenShut
namespace Go.Proofs.Qxb6631326a
open Go.RowKit

set_option maxHeartbeats 2000000 in
theorem zz5_any (p0 p1 p3 p7 p8 p10 : Option Addr) (l0 c0 l1 c1 l3 c3 l7 c7 l8 c8 l10 c10 : Nat) (a2 a4 a5 a6 a9 : Int) (w : World)
    (h0 : l0 ≤ 9223372036854775807) (h1 : l1 ≤ 9223372036854775807) (h3 : l3 ≤ 9223372036854775807) (h7 : l7 ≤ 9223372036854775807) (h8 : l8 ≤ 9223372036854775807) (h10 : l10 ≤ 9223372036854775807) :
    Calls Try.prog 5 #[.slice p0 l0 c0, .slice p1 l1 c1, .int .u64 a2, .slice p3 l3 c3, .int .u64 a4, .int .u64 a5, .int .u64 a6, .slice p7 l7 c7, .slice p8 l8 c8, .int .u64 a9, .slice p10 l10 c10] w fun e w' =>
      (∃ r : Bool, e = .returned (.bool r)) ∧ w' = w := by
  go_enter Try.func5, Try.ntmps5
  go_wp2
  all_goals
    go_ret
    exact ⟨⟨_, rfl⟩, rfl⟩
set_option maxHeartbeats 2000000 in
theorem zz9_any (p0 p1 p3 : Option Addr) (l0 c0 l1 c1 l3 c3 : Nat) (a2 a4 a5 a6 a7 a8 a9 : Int) (w : World)
    (h0 : l0 ≤ 9223372036854775807) (h1 : l1 ≤ 9223372036854775807) (h3 : l3 ≤ 9223372036854775807) :
    Calls Try.prog 9 #[.slice p0 l0 c0, .slice p1 l1 c1, .int .u64 a2, .slice p3 l3 c3, .int .u64 a4, .int .u64 a5, .int .u64 a6, .int .u64 a7, .int .u64 a8, .int .u8 a9] w fun e w' =>
      (∃ r : Bool, e = .returned (.bool r)) ∧ w' = w := by
  go_enter Try.func9, Try.ntmps9
  go_wp2
  all_goals
    go_ret
    exact ⟨⟨_, rfl⟩, rfl⟩

theorem srt_perm {a b : List Int} (h : a.Perm b) : srt a = srt b := by
  have tot : ∀ x y : Int, (decide (x ≤ y) || decide (y ≤ x)) = true := fun x y => by
    simp only [Bool.or_eq_true, decide_eq_true_eq]; omega
  have tr : ∀ x y z : Int, decide (x ≤ y) = true → decide (y ≤ z) = true → decide (x ≤ z) = true := fun x y z h1 h2 => by
    simp only [decide_eq_true_eq] at *; omega
  have s1 := List.pairwise_mergeSort (le := fun x y : Int => decide (x ≤ y)) tr tot a
  have s2 := List.pairwise_mergeSort (le := fun x y : Int => decide (x ≤ y)) tr tot b
  have p : (srt a).Perm (srt b) := ((List.mergeSort_perm a _).trans h).trans (List.mergeSort_perm b _).symm
  exact p.eq_of_pairwise (le := fun x y => decide (x ≤ y) = true) (fun x y _ _ h1 h2 => by simp only [decide_eq_true_eq] at *; omega) s1 s2
theorem srt_reverse (zs : List Int) : srt zs.reverse = srt zs := srt_perm (List.reverse_perm zs)
theorem sameB_refl (a : List Int) : sameB a a = true := decide_eq_true rfl

theorem outC_bd (k a ci ct mi : Int) (s : Bool) : 0 ≤ outC k a ci ct mi s ∧ outC k a ci ct mi s ≤ 3 := by
  unfold outC
  split
  · omega
  · split
    · omega
    · split <;> omega

theorem ints_of {w : World} {a : Option Addr} {len cap : Nat} {zs : List Int}
    (h : (a = none ∧ len = 0 ∧ cap = 0 ∧ zs = []) ∨ ∃ x, a = some x ∧ len ≤ cap ∧ cap ≤ maxLen ∧ zs.length = cap ∧ (∀ i, i < zs.length → w.cell? (x.add i) = some (.int .u64 (zs.getD i 0))) ∧ ∀ n ∈ zs, (Lit.int .u64 n).wf = true) :
    Ints w.heap.size w (.slice a len cap) (zs.take len) ∧ (zs.take len).length = len ∧ len ≤ 9223372036854775807 := by
  rcases h with ⟨rfl, rfl, rfl, rfl⟩ | ⟨x, rfl, h1, h2, h3, hc, _⟩
  · exact ⟨.inl ⟨_, _, rfl, rfl⟩, rfl, by omega⟩
  · unfold maxLen at h2
    have hl : (zs.take len).length = len := by simp; omega
    refine ⟨?_, hl, by omega⟩
    by_cases h0 : len = 0
    · subst h0
      exact .inl ⟨_, _, rfl, by simp⟩
    · obtain ⟨b, off, rfl, hc'⟩ := ints_at hc (by omega)
      refine .inr ⟨b, off, cap, by rw [hl], World.block_lt_of_cell? w _ (hc' 0 (by omega)), fun j hj => ?_⟩
      rw [hc' j (by omega)]
      simp [List.getD, show j < len by omega]
theorem byts_of {w : World} {a : Option Addr} {len cap : Nat} {zs : List Int}
    (h : (a = none ∧ len = 0 ∧ cap = 0 ∧ zs = []) ∨ ∃ x, a = some x ∧ len ≤ cap ∧ cap ≤ maxLen ∧ zs.length = cap ∧ (∀ i, i < zs.length → w.cell? (x.add i) = some (.int .u8 (zs.getD i 0))) ∧ ∀ n ∈ zs, (Lit.int .u8 n).wf = true) :
    Byts w.heap.size w (.slice a len cap) (zs.take len) ∧ (zs.take len).length = len ∧ len ≤ 9223372036854775807 := by
  rcases h with ⟨rfl, rfl, rfl, rfl⟩ | ⟨x, rfl, h1, h2, h3, hc, hw⟩
  · exact ⟨⟨fun x hx => by simp at hx, .inl ⟨_, _, rfl, rfl⟩⟩, rfl, by omega⟩
  · unfold maxLen at h2
    have hl : (zs.take len).length = len := by simp; omega
    refine ⟨⟨fun y hy => ?_, ?_⟩, hl, by omega⟩
    · have := hw y (List.mem_of_mem_take hy)
      simp only [Lit.wf, Bool.and_eq_true, decide_eq_true_eq] at this
      exact ⟨this.1, this.2⟩
    by_cases h0 : len = 0
    · subst h0
      exact .inl ⟨_, _, rfl, by simp⟩
    · obtain ⟨b, off, rfl, hc'⟩ := ints_at hc (by omega)
      refine .inr ⟨b, off, cap, by rw [hl], World.block_lt_of_cell? w _ (hc' 0 (by omega)), fun j hj => ?_⟩
      rw [hc' j (by omega)]
      simp [List.getD, show j < len by omega]

/-- a box's cells stay while what lies below stays -/
theorem keepA {W W' : World} {B N : Nat} {A : Array Value} (h : ∀ i, W.cell? ⟨B, i, none⟩ = A[i]?) (hb : Below N W W') (hB : B < N) : ∀ i, W'.cell? ⟨B, i, none⟩ = A[i]? := fun i => (hb.cell (p := ⟨B, i, none⟩) hB).trans (h i)
end Go.Proofs.Qxb6631326a
