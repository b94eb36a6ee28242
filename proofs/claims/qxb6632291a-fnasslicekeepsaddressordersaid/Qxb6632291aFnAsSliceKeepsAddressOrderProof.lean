/-
  The proof of 'Rows.FnAsSliceKeepsAddressOrderSaid': the guide's frame for a law (written by program) and the walk.
-/
import Derived.Test.Qxb6632291aRows
import Derived.WalkKit
import Derived.ProofKit
import Derived.OpenShut
import Derived.ShutString
import Derived.Test.Qxb6632291aBytes
namespace Go.Proofs.Qxb6632291a.fnAsSliceKeepsAddressOrder
open Go.ChangeShapes Go.WideShapes Go.ChangeAt Go.RowKit
open Go.ChangeMaps (open_string shut_string)
set_option linter.unusedVariables false      -- a walk need not use every 'w<i>' (that an integer argument fits its kind)

theorem own : ownKnob Try.prog.godebug = none := by kernel_rfl

/-! ### STEP 1: THE WALK: the Go text returns true. 'Grown w w'': the world has at most new blocks (Derived/RowKit3.lean). Part the cases AHEAD of 'go_enter' where a test parts the walk; take each callee by a contract of your own. -/
set_option maxHeartbeats 2000000 in
/-- the two addresses of the later family -/
theorem walk6 (a0 a1 a2 a3 : Int) (w : World) (b0 : 0 ≤ a0 ∧ a0 ≤ 18446744073709551615) (b1 : 0 ≤ a1 ∧ a1 ≤ 18446744073709551615) (b2 : 0 ≤ a2 ∧ a2 ≤ 18446744073709551615) (b3 : 0 ≤ a3 ∧ a3 ≤ 18446744073709551615) :
    Calls Try.prog 3 #[.int .u64 a0, .int .u64 a1, .int .u64 a2, .int .u64 a3, .int .u8 1] w fun e w' => e = .returned (.bool true) ∧ Grown w w' := by
  have E0 : Hid (hor (cellAt a0 a1 8) 0 8 = a0) := hi_of a0 a1 b0.1 b0.2
  have E1 : Hid (hor (cellAt a0 a1 8) 8 8 = a1) := lo_of a0 a1 b1.1 b1.2
  have E2 : Hid (hor (cellAt a2 a3 8) 0 8 = a2) := hi_of a2 a3 b2.1 b2.2
  have E3 : Hid (hor (cellAt a2 a3 8) 8 8 = a3) := lo_of a2 a3 b3.1 b3.2
  clear b0 b1 b2 b3
  go_enter Try.func3, Try.ntmps3
  go_wp2_with fail
  refine (new_any _ _ _ _).mono ?_
  rintro e w' ⟨rfl, rfl⟩
  go_wp2_with fail
  refine (as_v6 _ _ _ _ rfl).mono ?_
  rintro e w2 ⟨rfl, hM⟩
  go_wp2_with fail
  refine (new_any _ _ _ _).mono ?_
  rintro e w' ⟨rfl, rfl⟩
  go_wp2_with fail
  refine (as_v6 _ _ _ _ rfl).mono ?_
  rintro e w4 ⟨rfl, hN⟩
  have hz := hM.size
  rw [World.size_alloc] at hz
  have HS : Hid (∀ i, i < 16 → w4.cell? ⟨w.heap.size + 1 + 1, 0 + i, none⟩ = some (.int .u8 (cellAt a0 a1 8 i))) := by
    intro i hi
    rw [Nat.zero_add, hN.below.cell (p := ⟨w.heap.size + 1 + 1, i, none⟩) (by simp; omega), World.cell?_alloc_past _ _ _ (by omega)]
    have := hM.cell i hi
    rwa [World.size_alloc] at this
  have HT : Hid (∀ i, i < 16 → w4.cell? ⟨w2.heap.size + 1 + 1, 0 + i, none⟩ = some (.int .u8 (cellAt a2 a3 8 i))) := by
    intro i hi
    rw [Nat.zero_add]
    have := hN.cell i hi
    rwa [World.size_alloc] at this
  have hG : Grown w w4 := grown_trans ((Grown.refl w).alloc _ _) (grown_trans hM.grown (grown_trans ((Grown.refl w2).alloc _ _) hN.grown))
  clear hM hN hz
  go_wp2_with fail
  refine (be16' _ _ _ (cellAt a0 a1 8) a0 a1 _ (cellAt_bd a0 a1 8) HS.out E0.out E1.out).mono ?_
  rintro e w' ⟨rfl, rfl⟩
  go_wp2_with fail
  refine (be16' _ _ _ (cellAt a2 a3 8) a2 a3 _ (cellAt_bd a2 a3 8) HT.out E2.out E3.out).mono ?_
  rintro e w' ⟨rfl, rfl⟩
  go_wp2_with fail
  refine (cmp' _ _ _ _ _ _ 16 (cellAt a0 a1 8) (cellAt a2 a3 8) (numCmp a0 a1 a2 a3) _ (by decide) HS.out HT.out (by rw [lex16 _ _ (cellAt_bd a0 a1 8) (cellAt_bd a2 a3 8), E0.out, E1.out, E2.out, E3.out])).mono ?_
  rintro e w' ⟨rfl, q, rfl⟩
  go_wp2_with fail
  refine (num_any _ _ _ _ _).mono ?_
  rintro e w' ⟨rfl, rfl⟩
  go_wp2
  go_ret
  exact ⟨rfl, hG⟩

set_option maxHeartbeats 2000000 in
/-- the two addresses of the elder family -/
theorem walk4 (a1 a3 : Int) (w : World) (b1 : 0 ≤ a1 ∧ a1 ≤ 4294967295) (b3 : 0 ≤ a3 ∧ a3 ≤ 4294967295) :
    Calls Try.prog 3 #[.int .u64 0, .int .u64 a1, .int .u64 0, .int .u64 a3, .int .u8 0] w fun e w' => e = .returned (.bool true) ∧ Grown w w' := by
  have E1 : Hid (hor (fun i => cellAt 0 a1 8 (12 + i)) 0 4 = a1) := low_of 0 a1 b1.1 b1.2
  have E3 : Hid (hor (fun i => cellAt 0 a3 8 (12 + i)) 0 4 = a3) := low_of 0 a3 b3.1 b3.2
  go_enter Try.func3, Try.ntmps3
  go_wp2_with fail
  refine (new_any _ _ _ _).mono ?_
  rintro e w' ⟨rfl, rfl⟩
  go_wp2_with fail
  refine (as_v4 _ _ _).mono ?_
  rintro e w2 ⟨rfl, hM⟩
  go_wp2_with fail
  refine (new_any _ _ _ _).mono ?_
  rintro e w' ⟨rfl, rfl⟩
  go_wp2_with fail
  refine (as_v4 _ _ _).mono ?_
  rintro e w4 ⟨rfl, hN⟩
  have hz := hM.size
  rw [World.size_alloc] at hz
  have HS : Hid (∀ i, i < 4 → w4.cell? ⟨w.heap.size + 1 + 1, 12 + i, none⟩ = some (.int .u8 ((fun i => cellAt 0 a1 8 (12 + i)) i))) := by
    intro i hi
    rw [hN.below.cell (p := ⟨w.heap.size + 1 + 1, 12 + i, none⟩) (by simp; omega), World.cell?_alloc_past _ _ _ (by omega)]
    have := hM.cell (12 + i) (by omega)
    rwa [World.size_alloc] at this
  have HT : Hid (∀ i, i < 4 → w4.cell? ⟨w2.heap.size + 1 + 1, 12 + i, none⟩ = some (.int .u8 ((fun i => cellAt 0 a3 8 (12 + i)) i))) := by
    intro i hi
    have := hN.cell (12 + i) (by omega)
    rwa [World.size_alloc] at this
  have hG : Grown w w4 := grown_trans ((Grown.refl w).alloc _ _) (grown_trans hM.grown (grown_trans ((Grown.refl w2).alloc _ _) hN.grown))
  clear hM hN hz
  go_wp2_with fail
  refine (be4' _ _ _ (fun i => cellAt 0 a1 8 (12 + i)) a1 _ (fun i => cellAt_bd 0 a1 8 (12 + i)) HS.out E1.out).mono ?_
  rintro e w' ⟨rfl, rfl⟩
  go_wp2_with fail
  refine (be4' _ _ _ (fun i => cellAt 0 a3 8 (12 + i)) a3 _ (fun i => cellAt_bd 0 a3 8 (12 + i)) HT.out E3.out).mono ?_
  rintro e w' ⟨rfl, rfl⟩
  go_wp2_with fail
  refine (cmp' _ _ _ _ _ _ 4 (fun i => cellAt 0 a1 8 (12 + i)) (fun i => cellAt 0 a3 8 (12 + i)) (numCmp 0 a1 0 a3) _ (by decide) HS.out HT.out (by rw [lex4 _ _ (fun i => cellAt_bd 0 a1 8 (12 + i)) (fun i => cellAt_bd 0 a3 8 (12 + i)), E1.out, E3.out])).mono ?_
  rintro e w' ⟨rfl, q, rfl⟩
  go_wp2_with fail
  refine (num_any _ _ _ _ _).mono ?_
  rintro e w' ⟨rfl, rfl⟩
  go_wp2
  go_ret
  exact ⟨rfl, hG⟩

set_option maxHeartbeats 2000000 in
theorem walk (a0 : Int) (a1 : Int) (a2 : Int) (a3 : Int) (a4 : Int) (w0 : (Lit.int .u64 a0).wf = true) (w1 : (Lit.int .u64 a1).wf = true) (w2 : (Lit.int .u64 a2).wf = true) (w3 : (Lit.int .u64 a3).wf = true) (w4 : (Lit.int .u8 a4).wf = true) (w : World) :
    Calls Try.prog 3 #[.int .u64 a0, .int .u64 a1, .int .u64 a2, .int .u64 a3, .int .u8 a4] w fun e w' => e = .returned (.bool true) ∧ Grown w w' := by
  have b0 := bd64 w0
  have b1 := bd64 w1
  have b2 := bd64 w2
  have b3 := bd64 w3
  have b4 := bd8 w4
  clear w0 w1 w2 w3 w4
  by_cases c : 1 < a4
  · go_enter Try.func3, Try.ntmps3
    go_wp2
    go_ret
    exact ⟨rfl, Grown.refl _⟩
  by_cases c4 : a4 = 1
  · subst c4
    exact walk6 a0 a1 a2 a3 w b0 b1 b2 b3
  obtain rfl : a4 = 0 := by omega
  clear c c4 b4
  by_cases c0 : (a0 != 0) = true
  · go_enter Try.func3, Try.ntmps3
    go_wp2
    go_ret
    exact ⟨rfl, Grown.refl _⟩
  by_cases c1 : (a1 / 4294967296 != 0) = true
  · simp only [Bool.not_eq_true] at c0
    go_enter Try.func3, Try.ntmps3
    go_wp2
    go_ret
    exact ⟨rfl, Grown.refl _⟩
  by_cases c2 : (a2 != 0) = true
  · simp only [Bool.not_eq_true] at c0 c1
    go_enter Try.func3, Try.ntmps3
    go_wp2
    go_ret
    exact ⟨rfl, Grown.refl _⟩
  by_cases c3 : (a3 / 4294967296 != 0) = true
  · simp only [Bool.not_eq_true] at c0 c1 c2
    go_enter Try.func3, Try.ntmps3
    go_wp2
    go_ret
    exact ⟨rfl, Grown.refl _⟩
  simp at c0 c1 c2 c3
  subst c0 c2
  exact walk4 a1 a3 w (by omega) (by omega)

/-! ### THE ROW's STEP: WRITTEN OUT: LEAVE IT -/
set_option maxRecDepth 100000 in
theorem lifted (os : Os) (started : os.Started) (H : Type) (enc : TypeId × Value → H) :
    ReturnsInHanded {} Try.checked os 3 .any (Rows.fnAsSliceKeepsAddressOrderSpec.pre6 enc Try.prog Try.f3 Rows.fnAsSliceKeepsAddressOrderRow.domain false) (Rows.fnAsSliceKeepsAddressOrderSpec.post enc Try.prog Try.f3 false true false false) := by
  refine returnsInHanded_of_change (C := Try.checked) own started (by kernel_rfl) Try.func3
    (ChangeSpec.witness6 (enc := enc) (C := Try.checked) false ⟨#[], #[.int .u64 0, .int .u64 0, .int .u64 0, .int .u64 0, .int .u8 0], []⟩ 8 (by kernel_rfl) (by kernel_rfl) (by kernel_rfl) (by kernel_rfl)) ?_
  intro W base args ds gs before hval0 hW hcnd _
  have hval : ∀ (j : Nat) t v, Try.f3.params[j]? = some t → args[j]? = some v → Value.okWide Try.prog W .any base t v := hval0
  have hW' := hW
  obtain ⟨p, q, hA0, hV, rfl, hfz, hnd⟩ := hW
  have hA : DataW.TrodAll enc Try.prog W 0 (fun _ => true) true Try.f3.params.toList args.toList ds p := hA0
  rw [Try.params3] at hA hval
  obtain ⟨v0, vs0, d0, ds0, p0, q0, hargs, rfl, rfl, h0, r0⟩ := trodAll_cons hA
  obtain ⟨v1, vs1, d1, ds1, p1, q1, rfl, rfl, rfl, h1, r1⟩ := trodAll_cons r0
  obtain ⟨v2, vs2, d2, ds2, p2, q2, rfl, rfl, rfl, h2, r2⟩ := trodAll_cons r1
  obtain ⟨v3, vs3, d3, ds3, p3, q3, rfl, rfl, rfl, h3, r3⟩ := trodAll_cons r2
  obtain ⟨v4, vs4, d4, ds4, p4, q4, rfl, rfl, rfl, h4, r4⟩ := trodAll_cons r3
  obtain ⟨rfl, rfl, rfl⟩ := trodAll_nil r4
  obtain rfl : args = #[v0, v1, v2, v3, v4] := by cases args; simp_all
  obtain ⟨rfl, rfl⟩ := trodVars_none hV
  obtain ⟨a0, rfl, rfl, rfl, w0⟩ := open_int Try.underlying22 (hval 0 22 v0 rfl rfl) h0
  obtain ⟨a1, rfl, rfl, rfl, w1⟩ := open_int Try.underlying22 (hval 1 22 v1 rfl rfl) h1
  obtain ⟨a2, rfl, rfl, rfl, w2⟩ := open_int Try.underlying22 (hval 2 22 v2 rfl rfl) h2
  obtain ⟨a3, rfl, rfl, rfl, w3⟩ := open_int Try.underlying22 (hval 3 22 v3 rfl rfl) h3
  obtain ⟨a4, rfl, rfl, rfl, w4⟩ := open_int Try.underlying5 (hval 4 5 v4 rfl rfl) h4
  clear hA0 hval0
  simp only [List.append_nil] at hW'
  refine (walk a0 a1 a2 a3 a4 w0 w1 w2 w3 w4 W).mono fun e W' ⟨he, hg⟩ => ?_
  subst he
  exact ⟨_, rfl, post_of_same (pa := []) (pv := []) hW' (fun _ _ _ => (trodAll_cons_mk (shut_bool Try.underlying4 _) trodAll_mk0)) (fun sp _ => (trodAll_cons_mk (shut_int Try.underlying22 w0) (trodAll_cons_mk (shut_int Try.underlying22 w1) (trodAll_cons_mk (shut_int Try.underlying22 w2) (trodAll_cons_mk (shut_int Try.underlying22 w3) (trodAll_cons_mk (shut_int Try.underlying5 w4) trodAll_mk0)))))) (fun _ _ => rfl) rfl
    (hg.frame _) hg.2.1 (ok_one (by kernel_rfl) rfl (okWide_bool_mk Try.underlying4 _))⟩

theorem over : Rows.fnAsSliceKeepsAddressOrderRow.holds Try.pinned (OpenSpec.ofChange Rows.fnAsSliceKeepsAddressOrderSpec) :=
  OpenClaim.holds_of_wide 3 Try.f3 rfl rfl rfl rfl rfl rfl rfl ⟨rfl, rfl, rfl, rfl, rfl⟩ rfl rfl rfl rfl rfl (by kernel_rfl) Try.func3 (by kernel_rfl)
    (of_decide_eq_true (by kernel_rfl)) (by unfold Func.isWrapper; first | (rw [if_pos (by decide +kernel)]; kernel_rfl) | (rw [if_neg (by decide +kernel)]; exact ⟨rfl, rfl⟩))
    (fun os started H enc _ => lifted os started H enc)

/-- ████ THE STATEMENT ████ -/
theorem proved : Rows.FnAsSliceKeepsAddressOrderSaid :=
  over
end Go.Proofs.Qxb6632291a.fnAsSliceKeepsAddressOrder
