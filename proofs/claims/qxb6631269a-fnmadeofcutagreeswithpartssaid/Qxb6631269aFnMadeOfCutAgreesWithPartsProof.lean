/-
  The proof of 'Rows.FnMadeOfCutAgreesWithPartsSaid': the guide's frame for a law (written by program) and the walk.
-/
import Derived.Test.Qxb6631269aRows
import Derived.WalkKit
import Derived.ProofKit
import Derived.OpenShut
import Derived.ShutString
import Derived.Lib.Strings
import Derived.Test.Qxb6631269aMade
namespace Go.Proofs.Qxb6631269a.fnMadeOfCutAgreesWithParts
open Go.ChangeShapes Go.WideShapes Go.ChangeAt Go.RowKit
open Go.ChangeMaps (open_string shut_string)
set_option linter.unusedVariables false      -- a walk need not use every 'w<i>' (that an integer argument fits its kind)

theorem own : ownKnob Try.prog.godebug = none := by kernel_rfl

/-! ### STEP 1: THE WALK: the Go text returns true. 'Grown w w'': the world has at most new blocks (Derived/RowKit3.lean). Part the cases AHEAD of 'go_enter' where a test parts the walk; take each callee by a contract of your own. -/
set_option maxHeartbeats 400000 in
theorem bytes_yes (s : ByteArray) (k lo hi : Int) (w : World) (hs : s.size ≤ 1048576) :
    Calls Try.prog 5 #[.string s, .int .i64 k, .int .u8 lo, .int .u8 hi] w fun e w' => e = .returned (.bool true) ∧ w' = w := by
  go_enter Try.func5, Try.ntmps5
  go_wp2
  go_ret
  exact ⟨rfl, rfl⟩
set_option maxHeartbeats 400000 in
theorem bytes_no (s : ByteArray) (k lo hi : Int) (w : World) (hs : 1048576 < s.size) :
    Calls Try.prog 5 #[.string s, .int .i64 k, .int .u8 lo, .int .u8 hi] w fun e w' => e = .returned (.bool false) ∧ w' = w := by
  go_enter Try.func5, Try.ntmps5
  go_wp2
  go_ret
  exact ⟨rfl, rfl⟩

theorem empty_size (s : ByteArray) : s.toList.isEmpty = decide (s.size = 0) := by
  rw [ByteArray.toList_eq]; cases h : s.data.toList <;> simp_all [ByteArray.size, ← Array.length_toList]
theorem all_cut (l : List UInt8) (k : Nat) (p : UInt8 → Bool) : l.all p = ((l.take k).all p && (l.drop k).all p) := by
  rw [← List.all_append, List.take_append_drop]
theorem mk_cut (s : ByteArray) (k : Nat) (lo hi : Int) :
    mkS s lo hi = (!s.toList.isEmpty && ((s.extract 0 k).toList.isEmpty || mkS (s.extract 0 k) lo hi) && ((s.extract k s.size).toList.isEmpty || mkS (s.extract k s.size) lo hi)) := by
  have e1 : (s.extract 0 k).data.toList = s.data.toList.take k := by rw [Lib.extract_data]; simp
  have e2 : (s.extract k s.size).data.toList = s.data.toList.drop k := by
    rw [Lib.extract_data, List.take_of_length_le (by simp)]
  unfold mkS mk
  rw [ByteArray.toList_eq, ByteArray.toList_eq, ByteArray.toList_eq, e1, e2, all_cut s.data.toList k]
  have emp : ∀ (l : List UInt8) (p : UInt8 → Bool), (l.isEmpty || (!l.isEmpty && l.all p)) = l.all p := by
    intro l p; cases l <;> simp
  rw [emp, emp]
  simp [Bool.and_assoc]
theorem mk_one (s : ByteArray) (k : Nat) (lo hi : Int) (h : k < s.size) : mkS (s.extract k (k + 1)) lo hi = (decide (lo ≤ (s[k].toNat : Int)) && decide ((s[k].toNat : Int) ≤ hi)) := by
  have e1 : (s.extract k (k + 1)).data.toList = [s[k]] := by
    rw [Lib.extract_data, List.drop_eq_getElem_cons (by simpa using h)]
    simp; rfl
  unfold mkS mk
  rw [e1]; simp [inR]

set_option maxHeartbeats 8000000 in
/-- the walk where the string is short and the cut lies ahead of its end: every test is decided ahead -/
theorem walkIn (a0 : ByteArray) (k : Nat) (a2 a3 : Int) (hb' : a0.size ≤ 1048576) (hlt : k < a0.size) (w : World)
    (el ml mr o1 o2 : Bool) (hes : a0.toList.isEmpty = false) (hel : (a0.extract 0 k).toList.isEmpty = el) (her : (a0.extract k a0.size).toList.isEmpty = false)
    (hm : mkS a0 a2 a3 = ((el || ml) && mr)) (hml : mkS (a0.extract 0 k) a2 a3 = ml) (hmr : mkS (a0.extract k a0.size) a2 a3 = mr)
    (h1 : mkS (a0.extract k (k + 1)) a2 a3 = (o1 && o2)) (c1 : decide (a2 ≤ (a0[k].toNat : Int)) = o1) (c2 : decide ((a0[k].toNat : Int) ≤ a3) = o2) :
    Calls Try.prog 3 #[.string a0, .int .i64 k, .int .u8 a2, .int .u8 a3] w fun e w' => e = .returned (.bool true) ∧ Grown w w' := by
  cases o1 <;> cases o2 <;> simp only [decide_eq_true_eq, decide_eq_false_iff_not] at c1 c2 <;> cases el <;> cases ml <;> cases mr
  all_goals
    simp only [Bool.or_true, Bool.or_false, Bool.and_true, Bool.and_false] at hm h1
    go_enter Try.func3, Try.ntmps3
    go_wp2_with (first | (go_at_call 5; refine (bytes_yes _ _ _ _ _ hb').mono ?_; rintro e w' ⟨rfl, rfl⟩) | (go_at_call 6; refine (made_s _ _ _ _ (by unfold maxLen; simp; try omega)).mono ?_; rintro e w' ⟨rfl, rfl⟩))
    go_ret
    exact ⟨rfl, Grown.refl _⟩
set_option maxHeartbeats 2000000 in
/-- the cut lies at the string's end -/
theorem walkEnd (a0 : ByteArray) (a2 a3 : Int) (hb' : a0.size ≤ 1048576) (w : World)
    (es el ml : Bool) (hes : a0.toList.isEmpty = es) (hel : (a0.extract 0 a0.size).toList.isEmpty = el) (her : (a0.extract a0.size a0.size).toList.isEmpty = true)
    (hm : mkS a0 a2 a3 = (!es && (el || ml))) (hml : mkS (a0.extract 0 a0.size) a2 a3 = ml) :
    Calls Try.prog 3 #[.string a0, .int .i64 a0.size, .int .u8 a2, .int .u8 a3] w fun e w' => e = .returned (.bool true) ∧ Grown w w' := by
  cases es <;> cases el <;> cases ml
  all_goals
    simp only [Bool.or_true, Bool.or_false, Bool.and_true, Bool.and_false, Bool.not_true, Bool.not_false] at hm
    go_enter Try.func3, Try.ntmps3
    go_wp2_with (first | (go_at_call 5; refine (bytes_yes _ _ _ _ _ hb').mono ?_; rintro e w' ⟨rfl, rfl⟩) | (go_at_call 6; refine (made_s _ _ _ _ (by unfold maxLen; simp; try omega)).mono ?_; rintro e w' ⟨rfl, rfl⟩))
    go_ret
    exact ⟨rfl, Grown.refl _⟩

set_option maxHeartbeats 1000000 in
theorem walk (a0 : ByteArray) (a1 : Int) (a2 : Int) (a3 : Int) (w0 : a0.size ≤ maxLen) (w1 : (Lit.int .i64 a1).wf = true) (w2 : (Lit.int .u8 a2).wf = true) (w3 : (Lit.int .u8 a3).wf = true) (w : World) :
    Calls Try.prog 3 #[.string a0, .int .i64 a1, .int .u8 a2, .int .u8 a3] w fun e w' => e = .returned (.bool true) ∧ Grown w w' := by
  unfold maxLen at w0
  clear w1 w2 w3
  by_cases hb : 1048576 < a0.size
  · go_enter Try.func3, Try.ntmps3
    go_wp2_with (go_at_call 5; refine (bytes_no _ _ _ _ _ hb).mono ?_; rintro e w' ⟨rfl, rfl⟩)
    go_ret
    exact ⟨rfl, Grown.refl _⟩
  have hb' : a0.size ≤ 1048576 := by omega
  by_cases hn : a1 < 0
  · go_enter Try.func3, Try.ntmps3
    go_wp2_with (go_at_call 5; refine (bytes_yes _ _ _ _ _ hb').mono ?_; rintro e w' ⟨rfl, rfl⟩)
    go_ret
    exact ⟨rfl, Grown.refl _⟩
  by_cases hm : (a0.size : Int) < a1
  · go_enter Try.func3, Try.ntmps3
    go_wp2_with (go_at_call 5; refine (bytes_yes _ _ _ _ _ hb').mono ?_; rintro e w' ⟨rfl, rfl⟩)
    go_ret
    exact ⟨rfl, Grown.refl _⟩
  obtain ⟨k, rfl⟩ : ∃ k : Nat, a1 = (k : Int) := ⟨a1.toNat, by omega⟩
  have hc := mk_cut a0 k a2 a3
  by_cases hlt : k < a0.size
  · have hes : a0.toList.isEmpty = false := by rw [empty_size]; exact decide_eq_false (by omega)
    have her : (a0.extract k a0.size).toList.isEmpty = false := by rw [empty_size]; exact decide_eq_false (by simp; omega)
    exact walkIn a0 k a2 a3 hb' hlt w _ _ _ _ _ hes rfl her (by rw [hc, hes, her]; simp) rfl rfl (mk_one a0 k a2 a3 hlt) rfl rfl
  · obtain rfl : k = a0.size := by omega
    have her : (a0.extract a0.size a0.size).toList.isEmpty = true := by rw [empty_size]; simp
    exact walkEnd a0 a2 a3 hb' w _ _ _ rfl rfl her (by rw [hc, her]; simp) rfl

/-! ### THE ROW's STEP: WRITTEN OUT: LEAVE IT -/
set_option maxRecDepth 100000 in
theorem lifted (os : Os) (started : os.Started) (H : Type) (enc : TypeId × Value → H) :
    ReturnsInHanded {} Try.checked os 3 .any (Rows.fnMadeOfCutAgreesWithPartsSpec.pre6 enc Try.prog Try.f3 Rows.fnMadeOfCutAgreesWithPartsRow.domain false) (Rows.fnMadeOfCutAgreesWithPartsSpec.post enc Try.prog Try.f3 false true false false) := by
  refine returnsInHanded_of_change (C := Try.checked) own started (by kernel_rfl) Try.func3
    (ChangeSpec.witness6 (enc := enc) (C := Try.checked) false ⟨#[], #[.string ByteArray.empty, .int .i64 0, .int .u8 0, .int .u8 0], []⟩ 8 (by kernel_rfl) (by kernel_rfl) (by kernel_rfl) (by kernel_rfl)) ?_
  intro W base args ds gs before hval0 hW hcnd _
  have hval : ∀ (j : Nat) t v, Try.f3.params[j]? = some t → args[j]? = some v → Value.okWide Try.prog W .any base t v := hval0
  have hW' := hW
  obtain ⟨p, q, hA0, hV, rfl, hfz, hnd⟩ := hW
  have hA : DataW.TrodAll enc Try.prog W 0 (fun _ => true) true Try.f3.params.toList args.toList ds p := hA0
  rw [Try.params3] at hA hval
  obtain ⟨v0, vs0, d0, ds0, p0, q0, hargs, rfl, rfl, h0, r0⟩ := trodAll_cons hA
  obtain ⟨v1, vs1, d1, ds1, p1, q1, rfl, rfl, rfl, h1, r1⟩ := trodAll_cons r0
  obtain ⟨v2, vs2, d2, ds2, p2, q2, rfl, rfl, rfl, h2, r2⟩ := trodAll_cons r1
  obtain ⟨v3, vs3, d3, ds3, p3, q3, rfl, rfl, rfl, h3, r3⟩ := trodAll_cons r2
  obtain ⟨rfl, rfl, rfl⟩ := trodAll_nil r3
  obtain rfl : args = #[v0, v1, v2, v3] := by cases args; simp_all
  obtain ⟨rfl, rfl⟩ := trodVars_none hV
  obtain ⟨a0, rfl, rfl, rfl, w0⟩ := open_string Try.underlying9 (hval 0 9 v0 rfl rfl) h0
  obtain ⟨a1, rfl, rfl, rfl, w1⟩ := open_int Try.underlying3 (hval 1 3 v1 rfl rfl) h1
  obtain ⟨a2, rfl, rfl, rfl, w2⟩ := open_int Try.underlying5 (hval 2 5 v2 rfl rfl) h2
  obtain ⟨a3, rfl, rfl, rfl, w3⟩ := open_int Try.underlying5 (hval 3 5 v3 rfl rfl) h3
  clear hA0 hval0
  simp only [List.append_nil] at hW'
  refine (walk a0 a1 a2 a3 w0 w1 w2 w3 W).mono fun e W' ⟨he, hg⟩ => ?_
  subst he
  exact ⟨_, rfl, post_of_same (pa := []) (pv := []) hW' (fun _ _ _ => (trodAll_cons_mk (shut_bool Try.underlying4 _) trodAll_mk0)) (fun sp _ => (trodAll_cons_mk (shut_string Try.underlying9 w0) (trodAll_cons_mk (shut_int Try.underlying3 w1) (trodAll_cons_mk (shut_int Try.underlying5 w2) (trodAll_cons_mk (shut_int Try.underlying5 w3) trodAll_mk0))))) (fun _ _ => rfl) rfl
    (hg.frame _) hg.2.1 (ok_one (by kernel_rfl) rfl (okWide_bool_mk Try.underlying4 _))⟩

theorem over : Rows.fnMadeOfCutAgreesWithPartsRow.holds Try.pinned (OpenSpec.ofChange Rows.fnMadeOfCutAgreesWithPartsSpec) :=
  OpenClaim.holds_of_wide 3 Try.f3 rfl rfl rfl rfl rfl rfl rfl ⟨rfl, rfl, rfl, rfl, rfl⟩ rfl rfl rfl rfl rfl (by kernel_rfl) Try.func3 (by kernel_rfl)
    (of_decide_eq_true (by kernel_rfl)) (by unfold Func.isWrapper; first | (rw [if_pos (by decide +kernel)]; kernel_rfl) | (rw [if_neg (by decide +kernel)]; exact ⟨rfl, rfl⟩))
    (fun os started H enc _ => lifted os started H enc)

/-- ████ THE STATEMENT ████ -/
theorem proved : Rows.FnMadeOfCutAgreesWithPartsSaid :=
  over
end Go.Proofs.Qxb6631269a.fnMadeOfCutAgreesWithParts
