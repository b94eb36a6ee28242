/-
  slices.Values, AppendSeq, Collect and Sorted at []uint64 over this program (the walks after the guide's worked texts on a range over a function, turned to this program and to uint64).
-/
import Derived.Test.Qxb6631326aSortT
import Derived.RangeFuncNested
import Derived.RangeFuncBound
import Derived.RangeFuncCalls
import Derived.RangeFuncLeaves
import Derived.RangeFuncBox
import Derived.Shelf.Abstract
import Derived.Shelf.RegionOpen
import Derived.WalkKit
import Derived.OwnWalkIn
import Derived.TacticsInMore
import Derived.LoopNIn
import Derived.LoopIn
import Derived.Maps.AppendAt
namespace Go.Proofs.Qxb6631326a
open Go.RowKit Go.Shelf

attribute [local go_sem] Oper.semAt_some

/-- what has come when k rounds are over -/
def upto (zs : List Int) (k : Nat) : List Int := (List.range k).map fun j => zs[j]?.getD 0
theorem upto_succ (zs : List Int) (k : Nat) : upto zs (k + 1) = upto zs k ++ [zs[k]?.getD 0] := by simp [upto, List.range_succ]
theorem upto_length (zs : List Int) (k : Nat) : (upto zs k).length = k := by simp [upto]
theorem upto_take (zs : List Int) {k : Nat} (hk : k ≤ zs.length) : upto zs k = zs.take k := by
  apply List.ext_getElem
  · simp [upto, hk]
  · intro i h1 h2
    have : i < zs.length := by simp [upto] at h1; omega
    simp [upto, this]
theorem upto_all (zs : List Int) : upto zs zs.length = zs := by rw [upto_take zs (Nat.le_refl _)]; simp

set_option maxRecDepth 100000 in
set_option maxHeartbeats 2000000 in
theorem It.values1_in (F : Fence) (n : Nat) (h7 : F.fn 20) (hro : F.round = none) (hn : 1 ≤ n) (l Bs n₀ b off len cap : Nat) (zs : List Int) (hreach : len * 8 ≤ 140737488351232) (hb : b < n₀) (J Jx : List Int → World → Prop)
    (hY : ∀ pre x W, J pre W → pre.length < len → YieldAt F (n - 1) Try.prog l #[.int .u64 x] W fun e W' =>
      (e = .returned (.bool true) ∧ J (pre ++ [x]) W' ∧ Below n₀ W W') ∨ (e = .returned (.bool false) ∧ Jx (pre ++ [x]) W'))
    (W : World) (hBs : W.cell? ⟨Bs, 0, none⟩ = some (.slice (some ⟨b, off, none⟩) len cap)) (hc : ∀ j, j < len → W.cell? ⟨b, off + j, none⟩ = some (.int .u64 (zs[j]?.getD 0))) (h0 : J [] W) :
    CallsIn F n Try.prog 20 #[.func (.yield l) #[] #[], .pointer (some ⟨Bs, 0, none⟩)] W fun e W' => (∃ v, e = .returned v) ∧
      ((∃ ys, ys = upto zs len ∧ J ys W') ∨ (∃ pre, (∃ k, k ≤ len ∧ pre = upto zs k) ∧ Jx pre W')) := by
  refine callsIn_of_wp Try.func20 rfl h7 ?_ hro
  simp only [Try.ntmps20, List.size_toArray, List.length_cons, List.length_nil, Nat.reduceAdd, Nat.reduceSub, Array.replicate_succ, Array.replicate_zero, List.push_toArray, List.append_toArray, List.nil_append, List.cons_append]
  gi_wp2
  gi_loopw [7] (fun i wr => ∃ k : Nat, k ≤ len ∧ i = .int .i64 k ∧ J (upto zs k) wr ∧ Below n₀ W wr)
    (fun i _ => len - (intOf i).toNat)
  case atStart => exact ⟨0, Nat.zero_le _, rfl, h0, Below.refl _ _⟩
  case round =>
    obtain ⟨k, hk, rfl, hJs, hnx⟩ := hrel
    have hcx : k < len → wr.cell? ⟨b, off + k, none⟩ = some (.int .u64 (zs[k]?.getD 0)) := fun h => (hnx.cell (p := ⟨b, off + k, none⟩) hb).trans (hc k h)
    by_cases hlt : k < len
    · obtain ⟨fn, tmps, assign, body, hy, hR⟩ := hY _ (zs[k]?.getD 0) wr hJs (by rw [upto_length]; exact hlt)
      have hcx' := hcx hlt
      gi_wp2
      refine hR.mono ?_
      rintro e W3 (⟨rfl, hJ3, hk3⟩ | ⟨rfl, hJx3⟩)
      · gi_wp2
        go_roundw
        case rel => exact ⟨k + 1, by omega, by simp, by rw [upto_succ]; exact hJ3, hnx.trans hk3⟩
        case measure => simp [intOf]; omega
      · gi_wp2
        refine bodyPost_ret (results_none rfl _ _ _) rfl ?_
        exact ⟨⟨_, rfl⟩, .inr ⟨_, ⟨k + 1, by omega, (upto_succ _ _).symm⟩, hJx3⟩⟩
    · obtain rfl : k = len := by omega
      gi_wp2
      go_end0
      exact ⟨⟨_, rfl⟩, .inl ⟨_, rfl, hJs⟩⟩

/-- the slice value sv holds the numbers zs, in a block below n₀; or it has no element -/
def Ints (n₀ : Nat) (W : World) (sv : Value) (zs : List Int) : Prop :=
  (∃ a cap, sv = .slice a 0 cap ∧ zs = []) ∨ ∃ b off cap, sv = .slice (some ⟨b, off, none⟩) zs.length cap ∧ b < n₀ ∧ ∀ j, j < zs.length → W.cell? ⟨b, off + j, none⟩ = some (.int .u64 (zs[j]?.getD 0))
theorem Ints.below {n₀ : Nat} {A B : World} (h : Below n₀ A B) {sv : Value} {zs : List Int} : Ints n₀ A sv zs → Ints n₀ B sv zs
  | .inl e => .inl e
  | .inr ⟨b, off, cap, e, hb, hc⟩ => .inr ⟨b, off, cap, e, hb, fun j hj => (h.cell (p := ⟨b, off + j, none⟩) hb).trans (hc j hj)⟩
theorem Ints.mono {n₀ n₁ : Nat} {A : World} (h : n₀ ≤ n₁) {sv : Value} {zs : List Int} : Ints n₀ A sv zs → Ints n₁ A sv zs
  | .inl e => .inl e
  | .inr ⟨b, off, cap, e, hb, hc⟩ => .inr ⟨b, off, cap, e, Nat.lt_of_lt_of_le hb h, hc⟩

set_option maxRecDepth 100000 in
set_option maxHeartbeats 1000000 in
theorem It.values1_nil_in (F : Fence) (n : Nat) (h7 : F.fn 20) (hro : F.round = none) (l Bs : Nat) (a : Option Addr) (cap : Nat) (J : List Int → World → Prop) (W : World) (hBs : W.cell? ⟨Bs, 0, none⟩ = some (.slice a 0 cap)) (h0 : J [] W) :
    CallsIn F n Try.prog 20 #[.func (.yield l) #[] #[], .pointer (some ⟨Bs, 0, none⟩)] W fun e W' => (∃ v, e = .returned v) ∧ J [] W' := by
  refine callsIn_of_wp Try.func20 rfl h7 ?_ hro
  simp only [Try.ntmps20, List.size_toArray, List.length_cons, List.length_nil, Nat.reduceAdd, Nat.reduceSub, Array.replicate_succ, Array.replicate_zero, List.push_toArray, List.append_toArray, List.nil_append, List.cons_append]
  gi_wp2
  gi_loopw [7] (fun i wr => i = .int .i64 0 ∧ J [] wr) (fun _ _ => 0)
  case atStart => exact ⟨rfl, h0⟩
  case round =>
    obtain ⟨rfl, hJs⟩ := hrel
    gi_wp2
    go_end0
    exact ⟨⟨_, rfl⟩, hJs⟩

theorem It.values_stops (F : Fence) (n : Nat) (h7 : F.fn 20) (hro : F.round = none) (hn : 1 ≤ n) (Bs n₀ : Nat) (sv : Value) (zs : List Int) (hreach : zs.length * 8 ≤ 140737488351232) (w : World) (hBs : Bs < w.heap.size) (hn₀ : n₀ ≤ w.heap.size)
    (hc : w.cell? ⟨Bs, 0, none⟩ = some sv) (hI : Ints n₀ w sv zs) :
    SeqStopsK F n Try.prog 20 #[.pointer (some ⟨Bs, 0, none⟩)] (fun x : Int => #[Value.int .u64 x]) (Below n₀) (fun ys => ys = zs) (fun pre => pre <+: zs) zs.length w := fun l J Jx W hW _ _ hY h0 => by
  have hc' := (hW.cell (p := ⟨Bs, 0, none⟩) hBs).trans hc
  rcases hI.below (hW.mono hn₀) with ⟨a, cap, rfl, rfl⟩ | ⟨b, off, cap, rfl, hb, hcs⟩
  · exact (It.values1_nil_in F n h7 hro l Bs a cap J W hc' h0).mono fun e W' ⟨he, hj⟩ => ⟨he, .inl ⟨_, rfl, hj⟩⟩
  · refine (It.values1_in F n h7 hro hn l Bs n₀ b off zs.length cap zs hreach hb J Jx hY W hc' hcs h0).mono ?_
    rintro e W' ⟨he, ⟨ys, rfl, hj⟩ | ⟨pre, ⟨k, hk, rfl⟩, hj⟩⟩
    · exact ⟨he, .inl ⟨_, upto_all zs, hj⟩⟩
    · exact ⟨he, .inr ⟨_, by rw [upto_take zs hk]; exact List.take_prefix _ _, hj⟩⟩

theorem info23 : (Try.prog.info? 23).map (fun i => (i.zero, i.size, i.bytes)) = some (some (.int .u64 0), 1, 8) := by kernel_rfl

set_option maxRecDepth 100000 in
set_option maxHeartbeats 2000000 in
theorem It.appendSeq_in (F : Fence) (n : Nat) (h21 : F.fn 21) (h20 : F.fn 20) (hro : F.round = none) (hn : 3 ≤ n) (Bs : Nat) (sv : Value) (zs : List Int) (hlen : zs.length ≤ maxLen) (hbytes : zs.length * 8 ≤ 140737488351232) (w : World) (hBs : Bs < w.heap.size)
    (hcB : w.cell? ⟨Bs, 0, none⟩ = some sv) (hI : Ints w.heap.size w sv zs) :
    CallsIn F n Try.prog 21 #[.slice none 0 0, .func (.func 20) #[] #[.pointer (some ⟨Bs, 0, none⟩)]] w fun e W' => ∃ v, e = .returned v ∧ W'.ownsRow w.heap.size 23 1 v zs.length (zs.map (Value.int .u64)) ∧ Below w.heap.size w W' := by
  have h1 : 1 ≤ n := by omega
  obtain ⟨i0, hi, hz0, hz1, hz2⟩ := info_parts info23
  refine callsIn_of_wp_marks Try.func21 rfl h21 ?_ hro
  simp only [Try.ntmps21, List.size_toArray, List.length_cons, List.length_nil, Nat.reduceAdd, Nat.reduceSub, Array.replicate_succ, Array.replicate_zero, List.push_toArray, List.append_toArray, List.nil_append, List.cons_append]
  gi_wp2
  have bO := Boxed.new w 22 (.slice none 0 0)
  have hB0 : Below w.heap.size w (w.alloc (.cells #[.slice none 0 0] 22)) := (Below.refl _ w).alloc (Nat.le_refl _) _
  refine wpIn_rangeFunc_ownG hro h1 (gf := 20) (lb := #[.pointer (some ⟨Bs, 0, none⟩)]) rfl h20 (enters_of Try.func20 (by kernel_rfl) rfl)
    (It.values_stops F (n - 1) h20 hro (by omega) Bs w.heap.size sv zs hbytes _ (by simp; omega) (by simp) ((hB0.cell (p := ⟨Bs, 0, none⟩) hBs).trans hcB) (hI.below hB0)) belowK_t (belowK_b (by simp)) (Below.refl _ _) (fun _ => rfl)
    (fun (pre : List Int) W => (∃ v, Boxed W w.heap.size 22 v ∧ W.ownsRow w.heap.size 23 1 v pre.length (pre.map (Value.int .u64)) ∧ True) ∧ Below w.heap.size w W)
    (fun _ _ _ => False)
    (OwnFrom.and (Own.from (holdsRow_own w.heap.size w.heap.size 22 23 1 (fun pre : List Int => pre.length) (fun pre : List Int => pre.map (Value.int .u64)) (fun _ _ => True)) _) (ownFrom_below (Nat.le_refl _) (by simp)))
    (fun _ _ _ _ _ hs _ _ => hs)
    ⟨⟨_, bO, World.ownsRow_nil _ _ _ _, trivial⟩, hB0⟩
    (fun x => { tmps := #[.slice none 0 0, .func (.func 20) #[] #[.pointer (some ⟨Bs, 0, none⟩)], .pointer (some ⟨w.heap.size, 0, none⟩), undef, .slice none 0 0, .int .u64 x, .func (.func 20) #[] #[.pointer (some ⟨Bs, 0, none⟩)], .int .u64 x, undef, undef, undef, undef, undef], defers := [] }) ?assign ?body ?done ?stop
  case assign =>
    intro l x W K hK
    gi_wp2
    exact hK
  case body =>
    rintro l pre x W ⟨⟨v, hv, hrow, _⟩, hB⟩ hlt
    have hc := hv.cell
    gi_wp2_with (gi_at_builtin; refine wpListIn_append_own _ rfl _ _ 22 rfl w.heap.size 23 i0 (.int .u64 0) 1 8 Try.underlying22 hi hz0 hz1 hz2 rfl (by decide) _ _ _ rfl (hrow.alloc _) ⟨W.heap.size, 0, none⟩ 1 1 [.int .u64 x] rfl rfl (cell_one_new _ _ _) (by simp [Value.oneCell']) (by omega) (by omega) (by have := hB.size; simp; omega) ?_; intro v' w1 hown' hgrow _; obtain ⟨g', cap', rfl⟩ := ownsRow_succ hown'; obtain ⟨hv1, hv2, hr2, hk2, hb2⟩ := hv.appended (by decide) hrow hB.size (Nat.le_refl _) hown' hgrow; have hc1 := hv1.cell; have hf1 := hv1.frozen)
    exact ⟨hk2.from _, hb2, ⟨_, hv2, by simpa using hr2, trivial⟩, hB.trans hb2⟩
  case done =>
    rintro D ys W hD rfl ⟨⟨v, hv, hrow, _⟩, hB⟩ hK
    have hc := hv.cell
    gi_wp2
    refine ⟨by simp, .inl ⟨_, _, rfl, run_takeDeferred hK, ?_⟩⟩
    exact ⟨_, results_tmp rfl _ _ _, v, rfl, ownsRow_putObj hrow _ hK rfl, hB.trans (belowK_b (w := w) (Nat.le_refl _) W D _ _ (by simp at hD; omega) hK rfl rfl)⟩
  case stop =>
    rintro D c pre W _ _ h _
    exact h.elim
end Go.Proofs.Qxb6631326a
