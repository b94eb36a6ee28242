/-
  The library's sort at []uint64, walked over this program: slices.Sort itself. (The walk is the guide's own, over its toy of []int, turned to this program's numbers and to uint64; the plain functions and their laws are the kit's.)
-/
import Derived.Test.Qxb6631326aSortP
import Derived.Test.Qxb6631326aSortC
import Derived.Test.Qxb6631326aSortD
import Derived.Test.Qxb6631326aSortL
import Derived.Test.Qxb6631326aSortQ
import Derived.Sort.AssemblyPlain
namespace Go.Proofs.Qxb6631326a
open Go.RowKit Go.Sort
def pdqWalkU : Prop := ∀ (blk off cap a b limit : Nat) (d : Array Int) (w : World), Holds (Value.int .u64) w blk off d → blk < w.heap.size → a ≤ b → b ≤ d.size → d.size < 4611686018427387904 → limit < 4611686018427387904 → Below ltInt a b d →
  Calls Try.prog 22 #[.slice (some ⟨blk, off, none⟩) d.size cap, .int .i64 a, .int .i64 b, .int .i64 limit] w fun e w' =>
    e = .returned (.tuple #[]) ∧ ∃ n os, w' = grow (putRow (Value.int .u64) (Sort.ahead w n) blk off (Sort.pdq ltInt d a b limit true true)) os
set_option maxRecDepth 100000 in
theorem Su.Sort_int (hpdq : pdqWalkU) (blk off cap : Nat) (d : Array Int) (w : World) (hH : Holds (Value.int .u64) w blk off d) (hblk : blk < w.heap.size) (hsz : d.size < 4611686018427387904) :
    Calls Try.prog 19 #[.slice (some ⟨blk, off, none⟩) d.size cap] w fun e w' => e = .returned (.tuple #[]) ∧ ∃ n os, w' = grow (putRow (Value.int .u64) (Sort.ahead w n) blk off (Sort.sort ltInt d)) os := by
  have HH : Hid (Holds (Value.int .u64) w blk off d) := hH
  clear hH
  have hLen : ∀ w, Calls Try.prog 23 #[.int .u64 (d.size : Int)] w fun e w' => e = .returned (.int .i64 (bitsLen d.size : Nat)) ∧ w' = w := fun w => by
    have h := Su.bits_Len (d.size : Int) w (by omega) (by omega)
    rwa [Int.toNat_natCast, bitLen_eq _ (by omega)] at h
  have hk : bitsLen d.size ≤ 62 := (bitsLen_le_iff d.size 62).2 (by omega)
  go_enter Try.func19, Try.ntmps19
  go_wp2_with (first
    | (go_at_call 23; refine (hLen _).mono ?_; rintro e w' ⟨rfl, rfl⟩)
    | (go_at_call 22; refine (hpdq blk off cap 0 d.size (bitsLen d.size) d _ (by exact HH.out) (by exact hblk) (Nat.zero_le _) (Nat.le_refl _) hsz (by omega) (Or.inl rfl)).mono ?_; rintro e w' ⟨rfl, n, os, rfl⟩))
  go_end0
  exact ⟨rfl, n, os, rfl⟩
theorem Su.callees : SuCallees where
  ins := Su.insertionSort_int
  brk := Su.breakPatterns_int
  piv := Su.choosePivot_int
  par := Su.partialInsertionSort_int
  peq := Su.partitionEqualOrdered_int
  prt := Su.partitionOrdered_int
theorem Su.plain : Plain13 where
  swo := swo_ltInt
  ins := insertionSort_holds
  par := partialInsertionSort_holds
  prt := partition_holds _
  peq := partitionEqual_holds _
  pdq := pdq_sorts _
theorem Su.pdqWalk : pdqWalkU := fun blk off cap a b limit d w hH hb hab hbd hsz hl hB =>
  Su.pdqsort_int Su.callees Su.plain (b - a + 1) blk off cap a b limit d w (by omega) hH hb hab hbd hsz hl hB
theorem Su.sort_eq (zs : List Int) : Sort.sort ltInt zs.toArray = (zs.mergeSort fun x y => decide (x ≤ y)).toArray := by
  rw [← sortInt zs]
/-- slices.Sort at []uint64 -/
theorem Su.slices_Sort (blk off cap : Nat) (zs : List Int) (w : World) (hH : Holds (Value.int .u64) w blk off zs.toArray) (hblk : blk < w.heap.size) (hsz : zs.length < 4611686018427387904) :
    Calls Try.prog 19 #[.slice (some ⟨blk, off, none⟩) zs.length cap] w fun e w' =>
      e = .returned (.tuple #[]) ∧ ∃ n os, w' = grow (putRow (Value.int .u64) (Sort.ahead w n) blk off (zs.mergeSort fun x y => decide (x ≤ y)).toArray) os := by
  have h := Su.Sort_int Su.pdqWalk blk off cap zs.toArray w hH hblk (by simpa using hsz)
  rw [Su.sort_eq] at h
  simpa using h
/-- slices.Sort of no element -/
theorem Su.insertionSort_nil (p : Option Addr) (cap : Nat) (w : World) :
    Calls Try.prog 24 #[.slice p 0 cap, .int .i64 0, .int .i64 0] w fun e w' => e = .returned (.tuple #[]) ∧ w' = w := by
  go_enter Try.func24, Try.ntmps24
  go_wp2
  refine wp_loop_rounds 1 ?_
  rw [rounds_succ]
  go_wp2
  go_end0
  exact ⟨rfl, rfl⟩
set_option maxRecDepth 100000 in
theorem Su.pdqsort_nil (p : Option Addr) (cap : Nat) (w : World) :
    Calls Try.prog 22 #[.slice p 0 cap, .int .i64 0, .int .i64 0, .int .i64 0] w fun e w' => e = .returned (.tuple #[]) ∧ w' = w := by
  go_enter Try.func22, Try.ntmps22
  go_wp2
  refine wp_loop_rounds 1 ?_
  rw [rounds_succ]
  go_wp2_with (first | (go_at_call 24; refine (Su.insertionSort_nil p cap _).mono ?_; rintro e w' ⟨rfl, rfl⟩))
  refine bodyPost_ret (results_none rfl _ _ _) rfl ?_
  exact ⟨rfl, rfl⟩
set_option maxRecDepth 100000 in
theorem Su.slices_Sort_nil (p : Option Addr) (cap : Nat) (w : World) :
    Calls Try.prog 19 #[.slice p 0 cap] w fun e w' => e = .returned (.tuple #[]) ∧ w' = w := by
  have hLen : ∀ w, Calls Try.prog 23 #[.int .u64 0] w fun e w' => e = .returned (.int .i64 0) ∧ w' = w := fun w => Su.bits_Len 0 w (by omega) (by omega)
  go_enter Try.func19, Try.ntmps19
  go_wp2_with (first
    | (go_at_call 23; refine (hLen _).mono ?_; rintro e w' ⟨rfl, rfl⟩)
    | (go_at_call 22; refine (Su.pdqsort_nil p cap _).mono ?_; rintro e w' ⟨rfl, rfl⟩))
  go_end0
  exact ⟨rfl, rfl⟩
end Go.Proofs.Qxb6631326a
