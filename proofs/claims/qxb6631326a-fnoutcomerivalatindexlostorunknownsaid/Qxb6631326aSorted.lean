/-
  slices.Sorted(slices.Values(a)), slices.Equal and the closure sameIDs at []uint64 over this program.
-/
import Derived.Test.Qxb6631326aIter
import Derived.BigQuiet
namespace Go.Proofs.Qxb6631326a
open Go.RowKit Go.Sort

/-- the ascending list -/
def srt (zs : List Int) : List Int := zs.mergeSort fun x y => decide (x ≤ y)
theorem srt_length (zs : List Int) : (srt zs).length = zs.length := by simp [srt]

set_option maxHeartbeats 400000 in
theorem values_any (a : Option Addr) (len cap : Nat) (w : World) :
    Calls Try.prog 16 #[.slice a len cap] w fun e w' => e = .returned (.func (.func 20) #[] #[.pointer (some ⟨w.heap.size, 0, none⟩)]) ∧ w' = w.alloc (.cells #[.slice a len cap] 22) := by
  go_enter Try.func16, Try.ntmps16
  go_wp2
  go_ret
  exact ⟨rfl, rfl⟩

theorem append_any (Bs : Nat) (sv : Value) (zs : List Int) (hlen : zs.length ≤ 1000000) (w : World) (hBs : Bs < w.heap.size) (hcB : w.cell? ⟨Bs, 0, none⟩ = some sv) (hI : Ints w.heap.size w sv zs) :
    Calls Try.prog 21 #[.slice none 0 0, .func (.func 20) #[] #[.pointer (some ⟨Bs, 0, none⟩)]] w fun e W' => ∃ v, e = .returned v ∧ W'.ownsRow w.heap.size 23 1 v zs.length (zs.map (Value.int .u64)) ∧ Below w.heap.size w W' :=
  (callsIn_wide (n := 3)).1 (It.appendSeq_in Fence.wide 3 trivial trivial rfl (by omega) Bs sv zs (by unfold maxLen; omega) (by omega) w hBs hcB hI)

set_option maxHeartbeats 400000 in
theorem collect_any (Bs : Nat) (sv : Value) (zs : List Int) (hlen : zs.length ≤ 1000000) (w : World) (hBs : Bs < w.heap.size) (hcB : w.cell? ⟨Bs, 0, none⟩ = some sv) (hI : Ints w.heap.size w sv zs) :
    Calls Try.prog 18 #[.func (.func 20) #[] #[.pointer (some ⟨Bs, 0, none⟩)]] w fun e W' => ∃ v, e = .returned v ∧ W'.ownsRow w.heap.size 23 1 v zs.length (zs.map (Value.int .u64)) ∧ Below w.heap.size w W' := by
  go_enter Try.func18, Try.ntmps18
  go_wp2_with fail
  refine (append_any Bs sv zs hlen w hBs hcB hI).mono ?_
  rintro e W ⟨v, rfl, hrow, hb⟩
  go_wp2
  go_ret
  exact ⟨v, rfl, hrow, hb⟩

theorem holds_block {w : World} {g : Nat} {cur : Array Value} {e : TypeId} {zs : List Int} (hb : w.heap[g]? = some (.cells cur e (0, 0))) (ht : cur.toList.take zs.length = zs.map (Value.int .u64)) : Holds (Value.int .u64) w g 0 zs.toArray := by
  intro j hj
  have hj' : j < zs.length := by simpa using hj
  refine ⟨?_, by simp [World.frozen?, hb]⟩
  have h1 : (cur.toList.take zs.length)[j]? = (zs.map (Value.int .u64))[j]? := by rw [ht]
  rw [List.getElem?_take_of_lt hj'] at h1
  simp only [World.cell?, hb, Nat.zero_add]
  simp only [Option.isSome_none, Bool.false_eq_true, if_false]
  rw [← Array.getElem?_toList, h1]
  simp [hj']
theorem grown_sorted {w : World} {g n : Nat} {os : Array Obj} (d : Array Int) : w.grownBy (grow (putRow (Value.int .u64) (Sort.ahead w n) g 0 d) os) (some g) := by
  refine ⟨rfl, rfl, rfl, by simp, fun k hk hne => ?_⟩
  rw [heap_grow_old _ _ (by simpa using hk)]
  have : g ≠ k := fun e => hne (by rw [e])
  simp [putRow, mapBlock, Sort.ahead, Array.getElem?_modify, this]

set_option maxHeartbeats 1000000 in
theorem sorted_any (Bs : Nat) (sv : Value) (zs : List Int) (hlen : zs.length ≤ 1000000) (w : World) (hBs : Bs < w.heap.size) (hcB : w.cell? ⟨Bs, 0, none⟩ = some sv) (hI : Ints w.heap.size w sv zs) :
    Calls Try.prog 15 #[.func (.func 20) #[] #[.pointer (some ⟨Bs, 0, none⟩)]] w fun e W' => ∃ v, e = .returned v ∧ Ints W'.heap.size W' v (srt zs) ∧ Below w.heap.size w W' := by
  go_enter Try.func15, Try.ntmps15
  go_wp2_with fail
  refine (collect_any Bs sv zs hlen w hBs hcB hI).mono ?_
  rintro e W ⟨v, rfl, hrow, hb⟩
  clear hcB hI
  rcases hrow.2 with ⟨rfl, hz⟩ | ⟨g, cap, cur, rfl, hbase, hgb, r1, r2, r3, r4⟩
  · have hzs : zs = [] := List.eq_nil_of_length_eq_zero hz
    clear hrow
    go_wp2_with fail
    refine (Su.slices_Sort_nil _ _ _).mono ?_
    rintro e w' ⟨rfl, rfl⟩
    go_wp2
    go_ret
    exact ⟨.slice none 0 0, rfl, .inl ⟨none, 0, rfl, by rw [hzs]; simp [srt]⟩, hb⟩
  · have hH : Holds (Value.int .u64) W g 0 zs.toArray := holds_block hgb (by simpa using r4)
    have hgl : g < W.heap.size := (Array.getElem?_eq_some_iff.1 hgb).1
    have HH : Hid (Holds (Value.int .u64) W g 0 zs.toArray) := hH
    clear hrow hH hgb r1 r2 r3 r4
    go_wp2_with fail
    refine (Su.slices_Sort g 0 cap zs W HH.out hgl (by omega)).mono ?_
    rintro e w' ⟨rfl, n, os, hw⟩
    have hc : ∀ j, j < (srt zs).length → w'.cell? ⟨g, 0 + j, none⟩ = some (.int .u64 ((srt zs)[j]?.getD 0)) := by
      intro j hj
      have hl := srt_length zs
      have hs : (srt zs).toArray.size = zs.toArray.size := by simp [srt]
      rw [hw, cell?_grow _ _ _ (by simpa using hgl)]
      have := cell?_putRow (Value.int .u64) _ g 0 zs.toArray (srt zs).toArray (holds_ahead _ _ n _ _ _ HH.out) hs j (by simpa [srt] using hj)
      rw [show zs.mergeSort (fun x y => decide (x ≤ y)) = srt zs from rfl]
      refine this.trans ?_
      simp [hj]
    have hb' : Below w.heap.size w w' := hb.grown (by rw [hw]; exact grown_sorted _) hb.size (fun j hj => by cases hj; exact hbase)
    have hg' : g < w'.heap.size := by rw [hw]; simp; omega
    have HC : Hid (∀ j, j < (srt zs).length → w'.cell? ⟨g, 0 + j, none⟩ = some (.int .u64 ((srt zs)[j]?.getD 0))) := hc
    clear hw hc HH
    go_wp2
    go_ret
    exact ⟨.slice (some ⟨g, 0, none⟩) zs.length cap, rfl, .inr ⟨g, 0, cap, by rw [srt_length], hg', HC.out⟩, hb'⟩
end Go.Proofs.Qxb6631326a
