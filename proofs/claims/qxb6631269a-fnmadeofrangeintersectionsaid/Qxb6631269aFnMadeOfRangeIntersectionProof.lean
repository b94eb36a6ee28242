/-
  The proof of 'Rows.FnMadeOfRangeIntersectionSaid': the guide's frame for a law (written by program) and the walk.
-/
import Derived.Test.Qxb6631269aRows
import Derived.WalkKit
import Derived.ProofKit
import Derived.OpenShut
import Derived.ShutString
import Derived.Test.Qxb6631269aMade
namespace Go.Proofs.Qxb6631269a.fnMadeOfRangeIntersection
open Go.ChangeShapes Go.WideShapes Go.ChangeAt Go.RowKit
open Go.ChangeMaps (open_string shut_string)
set_option linter.unusedVariables false      -- a walk need not use every 'w<i>' (that an integer argument fits its kind)

theorem own : ownKnob Try.prog.godebug = none := by kernel_rfl

/-! ### STEP 1: THE WALK: the Go text returns true. 'Grown w w'': the world has at most new blocks (Derived/RowKit3.lean). Part the cases AHEAD of 'go_enter' where a test parts the walk; take each callee by a contract of your own. -/
set_option maxHeartbeats 400000 in
theorem bytes_yes (s : ByteArray) (lo hi lo' hi' : Int) (w : World) (hs : s.size ≤ 1048576) :
    Calls Try.prog 7 #[.string s, .int .u8 lo, .int .u8 hi, .int .u8 lo', .int .u8 hi'] w fun e w' => e = .returned (.bool true) ∧ w' = w := by
  go_enter Try.func7, Try.ntmps7
  go_wp2
  go_ret
  exact ⟨rfl, rfl⟩
set_option maxHeartbeats 400000 in
theorem bytes_no (s : ByteArray) (lo hi lo' hi' : Int) (w : World) (hs : 1048576 < s.size) :
    Calls Try.prog 7 #[.string s, .int .u8 lo, .int .u8 hi, .int .u8 lo', .int .u8 hi'] w fun e w' => e = .returned (.bool false) ∧ w' = w := by
  go_enter Try.func7, Try.ntmps7
  go_wp2
  go_ret
  exact ⟨rfl, rfl⟩

theorem mk_both (s : ByteArray) (lo1 hi1 lo2 hi2 lo hi : Int) (hl : lo = if lo1 < lo2 then lo2 else lo1) (hh : hi = if hi2 < hi1 then hi2 else hi1) : mkS s lo hi = (mkS s lo1 hi1 && mkS s lo2 hi2) := by
  have e : ∀ c : UInt8, inR lo hi c = (inR lo1 hi1 c && inR lo2 hi2 c) := by
    intro c; subst hl; subst hh; unfold inR
    rw [Bool.eq_iff_iff]; simp only [Bool.and_eq_true, decide_eq_true_eq]
    split <;> split <;> omega
  unfold mkS mk
  generalize s.data.toList = l
  have e2 : l.all (inR lo hi) = (l.all (inR lo1 hi1) && l.all (inR lo2 hi2)) := by
    induction l with
    | nil => rfl
    | cons c l ih => simp only [List.all_cons, e, ih]; cases inR lo1 hi1 c <;> cases inR lo2 hi2 c <;> cases l.all (inR lo1 hi1) <;> cases l.all (inR lo2 hi2) <;> rfl
  rw [e2]; cases l.isEmpty <;> cases l.all (inR lo1 hi1) <;> cases l.all (inR lo2 hi2) <;> rfl
theorem okTo_wide (s : ByteArray) (lo hi lo' hi' : Int) (k : Nat) (h : okTo s lo hi k) (h1 : lo' ≤ lo) (h2 : hi ≤ hi') : okTo s lo' hi' k := by
  unfold okTo at *
  rw [List.all_eq_true] at *
  intro c hc
  have := h c hc
  unfold inR at *; simp only [Bool.and_eq_true, decide_eq_true_eq] at *; omega
theorem okTo_one (s : ByteArray) (h : 0 < s.size) : okTo s (s[0].toNat : Int) (s[0].toNat : Int) 1 :=
  okTo_succ s _ _ 0 h (okTo_zero s _ _) (Int.le_refl _) (Int.le_refl _)
theorem pos_of (s : ByteArray) (h : s.toList.isEmpty = false) : 0 < s.size := by
  rw [ByteArray.toList_eq] at h
  have : s.data.toList.length = s.size := by simp
  rcases hc : s.data.toList with _ | ⟨c, l⟩
  · rw [hc] at h; simp at h
  · rw [hc] at this; simp at this; omega
theorem mkS_empty (s : ByteArray) (lo hi : Int) (h : s.toList.isEmpty = true) : mkS s lo hi = false := mk_empty s lo hi h

theorem okTo_step (s : ByteArray) (m M m' M' : Int) (k : Nat) (h : k < s.size) (hok : okTo s m M k) (h1 : m' ≤ m) (h2 : M ≤ M') (h3 : m' ≤ (s[k].toNat : Int)) (h4 : (s[k].toNat : Int) ≤ M') : okTo s m' M' (k + 1) :=
  okTo_succ s m' M' k h (okTo_wide s m M m' M' k hok h1 h2) h3 h4

set_option maxHeartbeats 8000000 in
/-- a string that is short and not empty: the tests ahead of the loop are decided -/
theorem walkIn (a0 : ByteArray) (a1 a2 a3 a4 lo hi : Int) (hb' : a0.size ≤ 1048576) (he : a0.toList.isEmpty = false) (w : World)
    (m1 m2 : Bool) (h1 : mkS a0 a1 a2 = m1) (h2 : mkS a0 a3 a4 = m2) (h3 : mkS a0 lo hi = (m1 && m2))
    (hl : (a1 < a3 ∧ lo = a3) ∨ (¬ a1 < a3 ∧ lo = a1)) (hh : (a4 < a2 ∧ hi = a4) ∨ (¬ a4 < a2 ∧ hi = a2)) :
    Calls Try.prog 4 #[.string a0, .int .u8 a1, .int .u8 a2, .int .u8 a3, .int .u8 a4] w fun e w' => e = .returned (.bool true) ∧ Grown w w' := by
  have hp := pos_of a0 he
  rcases hl with ⟨hl, rfl⟩ | ⟨hl, rfl⟩ <;> rcases hh with ⟨hh, rfl⟩ | ⟨hh, rfl⟩ <;> cases m1 <;> cases m2
  all_goals simp only [Bool.and_true, Bool.and_false] at h3
  all_goals try exact absurd (h1.symm.trans h3) (by decide)
  all_goals try exact absurd (h2.symm.trans h3) (by decide)
  all_goals
    go_enter Try.func4, Try.ntmps4
    go_wp2_with (first | (go_at_call 7; refine (bytes_yes _ _ _ _ _ _ hb').mono ?_; rintro e w' ⟨rfl, rfl⟩) | (go_at_call 6; refine (made_s _ _ _ _ (by unfold maxLen; omega)).mono ?_; rintro e w' ⟨rfl, rfl⟩))
    go_loop [14, 15, 16] (fun a b i => ∃ k : Nat, ∃ m M : Int, 1 ≤ k ∧ k ≤ a0.size ∧ i = .int .i64 k ∧ a = .int .u8 m ∧ b = .int .u8 M ∧ okTo a0 m M k) (fun _ _ i => a0.size - (intOf i).toNat)
    case atStart => exact ⟨1, _, _, Nat.le_refl _, by omega, rfl, rfl, rfl, okTo_one a0 hp⟩
    case round =>
      obtain ⟨k, m, M, hk1, hk2, rfl, rfl, rfl, hok⟩ := hrel
      by_cases hlt : k < a0.size
      · clear h1 h2 h3
        go_wp2
        all_goals
          go_round
          case rel => exact ⟨k + 1, _, _, by omega, by omega, by go_num, rfl, rfl, okTo_step a0 m M _ _ k hlt hok (by omega) (by omega) (by omega) (by omega)⟩
          case measure => simp [intOf]; omega
      · have hM : mkS a0 m M = true := mk_end a0 m M k (by omega) he hok
        go_wp2_with (go_at_call 6; refine (made_s _ _ _ _ (by unfold maxLen; omega)).mono ?_; rintro e w' ⟨rfl, rfl⟩)
        go_ret
        exact ⟨rfl, Grown.refl _⟩

set_option maxHeartbeats 2000000 in
/-- the empty string -/
theorem walkEmpty (a0 : ByteArray) (a1 a2 a3 a4 : Int) (he : a0.toList.isEmpty = true) (hb' : a0.size ≤ 1048576) (hm : ∀ lo hi, mkS a0 lo hi = false) (w : World) :
    Calls Try.prog 4 #[.string a0, .int .u8 a1, .int .u8 a2, .int .u8 a3, .int .u8 a4] w fun e w' => e = .returned (.bool true) ∧ Grown w w' := by
  by_cases hl : a1 < a3 <;> by_cases hh : a4 < a2
  all_goals
    go_enter Try.func4, Try.ntmps4
    go_wp2_with (first | (go_at_call 7; refine (bytes_yes _ _ _ _ _ _ hb').mono ?_; rintro e w' ⟨rfl, rfl⟩) | (go_at_call 6; refine (made_s _ _ _ _ (by unfold maxLen; omega)).mono ?_; rintro e w' ⟨rfl, rfl⟩))
    go_ret
    exact ⟨rfl, Grown.refl _⟩

set_option maxHeartbeats 1000000 in
theorem walk (a0 : ByteArray) (a1 : Int) (a2 : Int) (a3 : Int) (a4 : Int) (w0 : a0.size ≤ maxLen) (w1 : (Lit.int .u8 a1).wf = true) (w2 : (Lit.int .u8 a2).wf = true) (w3 : (Lit.int .u8 a3).wf = true) (w4 : (Lit.int .u8 a4).wf = true) (w : World) :
    Calls Try.prog 4 #[.string a0, .int .u8 a1, .int .u8 a2, .int .u8 a3, .int .u8 a4] w fun e w' => e = .returned (.bool true) ∧ Grown w w' := by
  clear w1 w2 w3 w4
  by_cases hb : 1048576 < a0.size
  · unfold maxLen at w0
    go_enter Try.func4, Try.ntmps4
    go_wp2_with (go_at_call 7; refine (bytes_no _ _ _ _ _ _ hb).mono ?_; rintro e w' ⟨rfl, rfl⟩)
    go_ret
    exact ⟨rfl, Grown.refl _⟩
  have hb' : a0.size ≤ 1048576 := by omega
  cases he : a0.toList.isEmpty
  · refine walkIn a0 a1 a2 a3 a4 (if a1 < a3 then a3 else a1) (if a4 < a2 then a4 else a2) hb' he w _ _ rfl rfl (mk_both a0 a1 a2 a3 a4 _ _ rfl rfl) ?_ ?_
    · split <;> simp_all
    · split <;> simp_all
  · exact walkEmpty a0 a1 a2 a3 a4 he hb' (fun lo hi => mkS_empty a0 lo hi he) w

/-! ### THE ROW's STEP: WRITTEN OUT: LEAVE IT -/
set_option maxRecDepth 100000 in
theorem lifted (os : Os) (started : os.Started) (H : Type) (enc : TypeId × Value → H) :
    ReturnsInHanded {} Try.checked os 4 .any (Rows.fnMadeOfRangeIntersectionSpec.pre6 enc Try.prog Try.f4 Rows.fnMadeOfRangeIntersectionRow.domain false) (Rows.fnMadeOfRangeIntersectionSpec.post enc Try.prog Try.f4 false true false false) := by
  refine returnsInHanded_of_change (C := Try.checked) own started (by kernel_rfl) Try.func4
    (ChangeSpec.witness6 (enc := enc) (C := Try.checked) false ⟨#[], #[.string ByteArray.empty, .int .u8 0, .int .u8 0, .int .u8 0, .int .u8 0], []⟩ 8 (by kernel_rfl) (by kernel_rfl) (by kernel_rfl) (by kernel_rfl)) ?_
  intro W base args ds gs before hval0 hW hcnd _
  have hval : ∀ (j : Nat) t v, Try.f4.params[j]? = some t → args[j]? = some v → Value.okWide Try.prog W .any base t v := hval0
  have hW' := hW
  obtain ⟨p, q, hA0, hV, rfl, hfz, hnd⟩ := hW
  have hA : DataW.TrodAll enc Try.prog W 0 (fun _ => true) true Try.f4.params.toList args.toList ds p := hA0
  rw [Try.params4] at hA hval
  obtain ⟨v0, vs0, d0, ds0, p0, q0, hargs, rfl, rfl, h0, r0⟩ := trodAll_cons hA
  obtain ⟨v1, vs1, d1, ds1, p1, q1, rfl, rfl, rfl, h1, r1⟩ := trodAll_cons r0
  obtain ⟨v2, vs2, d2, ds2, p2, q2, rfl, rfl, rfl, h2, r2⟩ := trodAll_cons r1
  obtain ⟨v3, vs3, d3, ds3, p3, q3, rfl, rfl, rfl, h3, r3⟩ := trodAll_cons r2
  obtain ⟨v4, vs4, d4, ds4, p4, q4, rfl, rfl, rfl, h4, r4⟩ := trodAll_cons r3
  obtain ⟨rfl, rfl, rfl⟩ := trodAll_nil r4
  obtain rfl : args = #[v0, v1, v2, v3, v4] := by cases args; simp_all
  obtain ⟨rfl, rfl⟩ := trodVars_none hV
  obtain ⟨a0, rfl, rfl, rfl, w0⟩ := open_string Try.underlying9 (hval 0 9 v0 rfl rfl) h0
  obtain ⟨a1, rfl, rfl, rfl, w1⟩ := open_int Try.underlying5 (hval 1 5 v1 rfl rfl) h1
  obtain ⟨a2, rfl, rfl, rfl, w2⟩ := open_int Try.underlying5 (hval 2 5 v2 rfl rfl) h2
  obtain ⟨a3, rfl, rfl, rfl, w3⟩ := open_int Try.underlying5 (hval 3 5 v3 rfl rfl) h3
  obtain ⟨a4, rfl, rfl, rfl, w4⟩ := open_int Try.underlying5 (hval 4 5 v4 rfl rfl) h4
  clear hA0 hval0
  simp only [List.append_nil] at hW'
  refine (walk a0 a1 a2 a3 a4 w0 w1 w2 w3 w4 W).mono fun e W' ⟨he, hg⟩ => ?_
  subst he
  exact ⟨_, rfl, post_of_same (pa := []) (pv := []) hW' (fun _ _ _ => (trodAll_cons_mk (shut_bool Try.underlying4 _) trodAll_mk0)) (fun sp _ => (trodAll_cons_mk (shut_string Try.underlying9 w0) (trodAll_cons_mk (shut_int Try.underlying5 w1) (trodAll_cons_mk (shut_int Try.underlying5 w2) (trodAll_cons_mk (shut_int Try.underlying5 w3) (trodAll_cons_mk (shut_int Try.underlying5 w4) trodAll_mk0)))))) (fun _ _ => rfl) rfl
    (hg.frame _) hg.2.1 (ok_one (by kernel_rfl) rfl (okWide_bool_mk Try.underlying4 _))⟩

theorem over : Rows.fnMadeOfRangeIntersectionRow.holds Try.pinned (OpenSpec.ofChange Rows.fnMadeOfRangeIntersectionSpec) :=
  OpenClaim.holds_of_wide 4 Try.f4 rfl rfl rfl rfl rfl rfl rfl ⟨rfl, rfl, rfl, rfl, rfl⟩ rfl rfl rfl rfl rfl (by kernel_rfl) Try.func4 (by kernel_rfl)
    (of_decide_eq_true (by kernel_rfl)) (by unfold Func.isWrapper; first | (rw [if_pos (by decide +kernel)]; kernel_rfl) | (rw [if_neg (by decide +kernel)]; exact ⟨rfl, rfl⟩))
    (fun os started H enc _ => lifted os started H enc)

/-- ████ THE STATEMENT ████ -/
theorem proved : Rows.FnMadeOfRangeIntersectionSaid :=
  over
end Go.Proofs.Qxb6631269a.fnMadeOfRangeIntersection
