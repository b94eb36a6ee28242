/-
  The proof of 'Rows.FnAsSliceFreshAndV4EmbedsInV6Said': the guide's frame for a law (written by program) and the walk.
-/
import Derived.Test.Qxb6632291aRows
import Derived.WalkKit
import Derived.ProofKit
import Derived.OpenShut
import Derived.ShutString
import Derived.Test.Qxb6632291aBytes
namespace Go.Proofs.Qxb6632291a.fnAsSliceFreshAndV4EmbedsInV6
open Go.ChangeShapes Go.WideShapes Go.ChangeAt Go.RowKit
open Go.ChangeMaps (open_string shut_string)
set_option linter.unusedVariables false      -- a walk need not use every 'w<i>' (that an integer argument fits its kind)

theorem own : ownKnob Try.prog.godebug = none := by kernel_rfl

/-! ### STEP 1: THE WALK: the Go text returns true. 'Grown w w'': the world has at most new blocks (Derived/RowKit3.lean). Part the cases AHEAD of 'go_enter' where a test parts the walk; take each callee by a contract of your own. -/
theorem none_of (a0 a1 : Int) (h0 : a0 = 0) (h1 : 0 ≤ a1 ∧ a1 ≤ 4294967295) : ∀ i, i < 12 → cellAt a0 a1 8 i = 0 := by
  subst h0
  intro i hi
  rcases Nat.lt_or_ge i 8 with h | h
  · rw [cell_hi _ _ _ h]; simp [byteAt]
  · rw [show i = 8 + (i - 8) by omega, cell_lo _ _ _ (by omega)]
    rcases (show i = 8 ∨ i = 9 ∨ i = 10 ∨ i = 11 by omega) with rfl | rfl | rfl | rfl
    · show a1 / 72057594037927936 % 256 = 0; omega
    · show a1 / 281474976710656 % 256 = 0; omega
    · show a1 / 1099511627776 % 256 = 0; omega
    · show a1 / 4294967296 % 256 = 0; omega
theorem tail_of (a0 a1 : Int) : ∀ i, i < 4 → cellAt 0 a1 8 (12 + i) = cellAt a0 a1 8 (12 + i) := by
  intro i hi
  rw [show 12 + i = 8 + (4 + i) by omega, cell_lo _ _ _ (by omega), cell_lo _ _ _ (by omega)]

set_option maxHeartbeats 2000000 in
theorem walkIn (a0 a1 : Int) (w : World) (b0 : 0 ≤ a0 ∧ a0 ≤ 18446744073709551615) (b1 : 0 ≤ a1 ∧ a1 ≤ 18446744073709551615) :
    Calls Try.prog 4 #[.int .u64 a0, .int .u64 a1] w fun e w' => e = .returned (.bool true) ∧ Grown w w' := by
  have E0 : Hid (hor (cellAt a0 a1 8) 0 8 = a0) := hi_of a0 a1 b0.1 b0.2
  have E1 : Hid (hor (cellAt a0 a1 8) 8 8 = a1) := lo_of a0 a1 b1.1 b1.2
  have B1 : Hid (0 ≤ a1) := b1.1
  clear b0 b1
  go_enter Try.func4, Try.ntmps4
  go_wp2_with fail
  refine (new_any _ _ _ _).mono ?_
  rintro e w' ⟨rfl, rfl⟩
  go_wp2_with fail
  refine (as_v6 _ _ _ _ rfl).mono ?_
  rintro e w2 ⟨rfl, hM⟩
  have hz := hM.size
  simp only [World.size_alloc] at hz
  have HS : Hid (∀ i, i < 16 → w2.cell? ⟨w.heap.size + 1 + 1 + 1, 0 + i, none⟩ = some (.int .u8 (cellAt a0 a1 8 i))) := by
    intro i hi
    rw [Nat.zero_add]
    have := hM.cell i hi
    simpa only [World.size_alloc] using this
  have k0 : w2.cell? ⟨w.heap.size + 1, 0, none⟩ = some (.int .u64 a0) := by
    rw [hM.below.cell (p := ⟨w.heap.size + 1, 0, none⟩) (by simp)]; simp
  have k1 : w2.cell? ⟨w.heap.size + 1, 1, none⟩ = some (.int .u64 a1) := by
    rw [hM.below.cell (p := ⟨w.heap.size + 1, 1, none⟩) (by simp)]; simp
  have k2 : w2.cell? ⟨w.heap.size + 1, 2, none⟩ = some (.int .u8 1) := by
    rw [hM.below.cell (p := ⟨w.heap.size + 1, 2, none⟩) (by simp)]; simp
  have s0 : w2.cell? ⟨w.heap.size + 1 + 1 + 1, 0, none⟩ = some (.int .u8 (cellAt a0 a1 8 0)) := HS.out 0 (by omega)
  have s15 : w2.cell? ⟨w.heap.size + 1 + 1 + 1, 15, none⟩ = some (.int .u8 (cellAt a0 a1 8 15)) := HS.out 15 (by omega)
  have z0 : w2.frozen? ⟨w.heap.size + 1 + 1 + 1, 0, none⟩ = false := by
    have := hM.thaw 0 (by omega); simpa only [World.size_alloc] using this
  have z15 : w2.frozen? ⟨w.heap.size + 1 + 1 + 1, 15, none⟩ = false := by
    have := hM.thaw 15 (by omega); simpa only [World.size_alloc] using this
  have hG : Grown w w2 := grown_trans (((Grown.refl w).alloc _ _).alloc _ _) hM.grown
  have HZ : Hid (w2.heap.size = w.heap.size + 1 + 1 + 2) := hz
  clear hM hz
  go_wp2_with fail
  refine (be16' _ _ _ (cellAt a0 a1 8) a0 a1 _ (cellAt_bd a0 a1 8) HS.out E0.out E1.out).mono ?_
  rintro e w' ⟨rfl, rfl⟩
  clear HS
  go_wp2_with fail
  refine (as_v6 _ _ _ _ rfl).mono ?_
  rintro e w4 ⟨rfl, hN⟩
  have hG4 : Grown w w4 := grown_trans ((hG.setCell (by simp; omega) _).setCell (by simp; omega) _) hN.grown
  have HT : Hid (∀ i, i < 16 → w4.cell? ⟨w'.heap.size + 1, 0 + i, none⟩ = some (.int .u8 (cellAt a0 a1 8 i))) := by
    intro i hi
    rw [Nat.zero_add]
    have := hN.cell i hi
    simpa [World.setCell] using this
  have hz4 := hN.size
  have hz5 : w4.heap.size = w'.heap.size + 2 := by simpa [World.setCell] using hz4
  have HZ4 : Hid (w4.heap.size = w'.heap.size + 2) := hz5
  clear hN hz4 hz5 k0 k1 k2 s0 s15 z0 z15 hG
  go_wp2_with fail
  refine (be16' _ _ _ (cellAt a0 a1 8) a0 a1 _ (cellAt_bd a0 a1 8) HT.out E0.out E1.out).mono ?_
  rintro e w5 ⟨rfl, rfl⟩
  by_cases c0 : (a0 != 0) = true
  · go_wp2
    go_ret
    exact ⟨rfl, hG4⟩
  simp only [Bool.not_eq_true] at c0
  by_cases c1 : (a1 / 4294967296 != 0) = true
  · go_wp2
    go_ret
    exact ⟨rfl, hG4⟩
  simp only [Bool.not_eq_true] at c1
  have hl0 : a0 = 0 := by simpa using c0
  have hl1 : a1 / 4294967296 = 0 := by simpa using c1
  have HN : Hid (∀ i, i < 12 → cellAt a0 a1 8 i = 0) := none_of a0 a1 hl0 (by have := B1.out; omega)
  have HQ : Hid (∀ i, i < 4 → cellAt 0 a1 8 (12 + i) = cellAt a0 a1 8 (12 + i)) := tail_of a0 a1
  clear hl0 hl1
  go_wp2_with fail
  refine (new_any _ _ _ _).mono ?_
  rintro e w' ⟨rfl, rfl⟩
  go_wp2_with fail
  refine (as_v4 _ _ _).mono ?_
  rintro e w6 ⟨rfl, hP⟩
  have hG6 : Grown w w6 := grown_trans (hG4.alloc _ _) hP.grown
  have HU : Hid (∀ i, i < 4 → w6.cell? ⟨w5.heap.size + 1 + 1, 12 + i, none⟩ = some (.int .u8 (cellAt a0 a1 8 (12 + i)))) := by
    intro i hi
    have := hP.cell (12 + i) (by omega)
    rw [World.size_alloc, HQ.out i hi] at this
    exact this
  have HT6 : Hid (∀ i, i < 16 → w6.cell? ⟨w'.heap.size + 1, i, none⟩ = some (.int .u8 (cellAt a0 a1 8 i))) := by
    intro i hi
    have hz := HZ4.out
    rw [hP.below.cell (p := ⟨w'.heap.size + 1, i, none⟩) (by simp; omega), World.cell?_alloc_past _ _ _ (by omega)]
    have := HT.out i hi
    rwa [Nat.zero_add] at this
  clear hP HT hG4
  go_wp2
  go_loop [15] (fun i => ∃ k : Nat, k ≤ 12 ∧ i = .int .i64 k) (fun i => 12 - (intOf i).toNat)
  case atStart => exact ⟨0, by omega, rfl⟩
  case round =>
    obtain ⟨k, hk, rfl⟩ := hrel
    by_cases hlt : k < 12
    · have hc : w6.cell? ⟨w'.heap.size + 1, k, none⟩ = some (.int .u8 0) := by rw [HT6.out k (by omega), HN.out k hlt]
      go_wp2
      go_round
      case rel => exact ⟨k + 1, by omega, by go_num⟩
      case measure => simp [intOf]; omega
    · obtain rfl : k = 12 := by omega
      go_wp2
      go_loopw [16] (fun i wr => ∃ k : Nat, k ≤ 4 ∧ i = .int .i64 k ∧ ∃ q, wr = w6.drewN q) (fun i _ => 4 - (intOf i).toNat)
      case atStart => exact ⟨0, by omega, rfl, 0, rfl⟩
      case round =>
        obtain ⟨k, hk, rfl, q, rfl⟩ := hrel
        by_cases hlt : k < 4
        · have g1 := HU.out k hlt
          have g2 := HT6.out (12 + k) (by omega)
          have hI : (k : Int) < 4 := by omega
          go_wp2
          go_quiet (fail)
          go_wp2
          go_roundw
          case rel => exact ⟨k + 1, by omega, by go_num, _, rfl⟩
          case measure => simp [intOf]; omega
        · go_wp2
          go_ret
          exact ⟨rfl, hG6⟩

theorem walk (a0 : Int) (a1 : Int) (w0 : (Lit.int .u64 a0).wf = true) (w1 : (Lit.int .u64 a1).wf = true) (w : World) :
    Calls Try.prog 4 #[.int .u64 a0, .int .u64 a1] w fun e w' => e = .returned (.bool true) ∧ Grown w w' :=
  walkIn a0 a1 w (bd64 w0) (bd64 w1)

/-! ### THE ROW's STEP: WRITTEN OUT: LEAVE IT -/
set_option maxRecDepth 100000 in
theorem lifted (os : Os) (started : os.Started) (H : Type) (enc : TypeId × Value → H) :
    ReturnsInHanded {} Try.checked os 4 .any (Rows.fnAsSliceFreshAndV4EmbedsInV6Spec.pre6 enc Try.prog Try.f4 Rows.fnAsSliceFreshAndV4EmbedsInV6Row.domain false) (Rows.fnAsSliceFreshAndV4EmbedsInV6Spec.post enc Try.prog Try.f4 false true false false) := by
  refine returnsInHanded_of_change (C := Try.checked) own started (by kernel_rfl) Try.func4
    (ChangeSpec.witness6 (enc := enc) (C := Try.checked) false ⟨#[], #[.int .u64 0, .int .u64 0], []⟩ 8 (by kernel_rfl) (by kernel_rfl) (by kernel_rfl) (by kernel_rfl)) ?_
  intro W base args ds gs before hval0 hW hcnd _
  have hval : ∀ (j : Nat) t v, Try.f4.params[j]? = some t → args[j]? = some v → Value.okWide Try.prog W .any base t v := hval0
  have hW' := hW
  obtain ⟨p, q, hA0, hV, rfl, hfz, hnd⟩ := hW
  have hA : DataW.TrodAll enc Try.prog W 0 (fun _ => true) true Try.f4.params.toList args.toList ds p := hA0
  rw [Try.params4] at hA hval
  obtain ⟨v0, vs0, d0, ds0, p0, q0, hargs, rfl, rfl, h0, r0⟩ := trodAll_cons hA
  obtain ⟨v1, vs1, d1, ds1, p1, q1, rfl, rfl, rfl, h1, r1⟩ := trodAll_cons r0
  obtain ⟨rfl, rfl, rfl⟩ := trodAll_nil r1
  obtain rfl : args = #[v0, v1] := by cases args; simp_all
  obtain ⟨rfl, rfl⟩ := trodVars_none hV
  obtain ⟨a0, rfl, rfl, rfl, w0⟩ := open_int Try.underlying22 (hval 0 22 v0 rfl rfl) h0
  obtain ⟨a1, rfl, rfl, rfl, w1⟩ := open_int Try.underlying22 (hval 1 22 v1 rfl rfl) h1
  clear hA0 hval0
  simp only [List.append_nil] at hW'
  refine (walk a0 a1 w0 w1 W).mono fun e W' ⟨he, hg⟩ => ?_
  subst he
  exact ⟨_, rfl, post_of_same (pa := []) (pv := []) hW' (fun _ _ _ => (trodAll_cons_mk (shut_bool Try.underlying4 _) trodAll_mk0)) (fun sp _ => (trodAll_cons_mk (shut_int Try.underlying22 w0) (trodAll_cons_mk (shut_int Try.underlying22 w1) trodAll_mk0))) (fun _ _ => rfl) rfl
    (hg.frame _) hg.2.1 (ok_one (by kernel_rfl) rfl (okWide_bool_mk Try.underlying4 _))⟩

theorem over : Rows.fnAsSliceFreshAndV4EmbedsInV6Row.holds Try.pinned (OpenSpec.ofChange Rows.fnAsSliceFreshAndV4EmbedsInV6Spec) :=
  OpenClaim.holds_of_wide 4 Try.f4 rfl rfl rfl rfl rfl rfl rfl ⟨rfl, rfl, rfl, rfl, rfl⟩ rfl rfl rfl rfl rfl (by kernel_rfl) Try.func4 (by kernel_rfl)
    (of_decide_eq_true (by kernel_rfl)) (by unfold Func.isWrapper; first | (rw [if_pos (by decide +kernel)]; kernel_rfl) | (rw [if_neg (by decide +kernel)]; exact ⟨rfl, rfl⟩))
    (fun os started H enc _ => lifted os started H enc)

/-- ████ THE STATEMENT ████ -/
theorem proved : Rows.FnAsSliceFreshAndV4EmbedsInV6Said :=
  over
end Go.Proofs.Qxb6632291a.fnAsSliceFreshAndV4EmbedsInV6
