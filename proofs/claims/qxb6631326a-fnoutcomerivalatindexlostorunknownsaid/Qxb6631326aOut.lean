/-
  Change.Outcome over this program: Pending 0, Done 1, Lost 2, Unknown 3.
-/
import Derived.Test.Qxb6631326aBeq
namespace Go.Proofs.Qxb6631326a
open Go.RowKit

/-- a Change as a value, its wait empty -/
abbrev chg (cv cn cx : Value) (ci ct : Int) : Value := .agg #[cv, cn, .int .u64 ci, cx, .int .u64 ct, .int .u64 0, .int .u64 0, .int .u64 0, .int .u64 0, .int .i64 0, .pointer none]
/-- a Status as a value, its other fields empty -/
abbrev sta (mv mn mx : Value) (mi k a : Int) : Value := .agg #[.int .u64 0, .int .u64 0, .int .u64 0, .int .u64 k, .int .u64 0, .int .u64 a, .int .u64 0, .int .u64 0, .bool false, mv, mn, .int .u64 mi, mx, .bool false, .slice none 0 0, .slice none 0 0, .int .u64 0, .slice none 0 0, .int .u64 0, .int .u64 0]

/-- what Outcome answers -/
def outC (k a ci ct mi : Int) (same : Bool) : Int := if k < ci ∧ a ≤ ct then 0 else if ci ≤ k ∧ mi = ci ∧ same = true then 1 else if ci < mi then 3 else 2
theorem ret_i {k : IntKind} {a b : Int} (h : a = b) : Ending.returned (.int k a) = .returned (.int k b) := by rw [h]

set_option maxHeartbeats 2000000 in
theorem out_plain (pcv pcn pcx pmv pmn pmx : Option Addr) (lcv ccv lcn ccn lcx ccx lmv cmv lmn cmn lmx cmx : Nat) (ci ct mi k a : Int) (w : World) (s : Bool) (hno : ¬ (ci ≤ k ∧ mi = ci)) :
    Calls Try.prog 8 #[chg (.slice pcv lcv ccv) (.slice pcn lcn ccn) (.slice pcx lcx ccx) ci ct, sta (.slice pmv lmv cmv) (.slice pmn lmn cmn) (.slice pmx lmx cmx) mi k a] w fun e w' =>
      e = .returned (.int .u8 (outC k a ci ct mi s)) ∧ Below w.heap.size w w' := by
  by_cases h1 : k < ci
  · by_cases h2 : a ≤ ct
    · have hr : outC k a ci ct mi s = 0 := by unfold outC; rw [if_pos ⟨h1, h2⟩]
      rw [hr]
      clear hr hno
      go_enter Try.func8, Try.ntmps8
      go_wp2
      go_ret
      exact ⟨rfl, (((Below.refl _ w).alloc (Nat.le_refl _) _).alloc (by simp) _).alloc (by simp; omega) _⟩
    · by_cases h3 : ci < mi
      · have hr : outC k a ci ct mi s = 3 := by unfold outC; rw [if_neg (by omega), if_neg (by omega), if_pos h3]
        rw [hr]
        clear hr hno
        go_enter Try.func8, Try.ntmps8
        go_wp2
        go_ret
        exact ⟨rfl, (((Below.refl _ w).alloc (Nat.le_refl _) _).alloc (by simp) _).alloc (by simp; omega) _⟩
      · have hr : outC k a ci ct mi s = 2 := by unfold outC; rw [if_neg (by omega), if_neg (by omega), if_neg h3]
        rw [hr]
        clear hr hno
        go_enter Try.func8, Try.ntmps8
        go_wp2
        go_ret
        exact ⟨rfl, (((Below.refl _ w).alloc (Nat.le_refl _) _).alloc (by simp) _).alloc (by simp; omega) _⟩
  · have hne : (mi == ci) = false := by simp; omega
    by_cases h3 : ci < mi
    · have hr : outC k a ci ct mi s = 3 := by unfold outC; rw [if_neg (by omega), if_neg (fun h => hno ⟨h.1, h.2.1⟩), if_pos h3]
      rw [hr]
      clear hr hno
      go_enter Try.func8, Try.ntmps8
      go_wp2
      go_ret
      exact ⟨rfl, (((Below.refl _ w).alloc (Nat.le_refl _) _).alloc (by simp) _).alloc (by simp; omega) _⟩
    · have hr : outC k a ci ct mi s = 2 := by unfold outC; rw [if_neg (by omega), if_neg (fun h => hno ⟨h.1, h.2.1⟩), if_neg h3]
      rw [hr]
      clear hr hno
      go_enter Try.func8, Try.ntmps8
      go_wp2
      go_ret
      exact ⟨rfl, (((Below.refl _ w).alloc (Nat.le_refl _) _).alloc (by simp) _).alloc (by simp; omega) _⟩

set_option maxHeartbeats 2000000 in
theorem out_same (pcv pcn pcx pmv pmn pmx : Option Addr) (lcv ccv lcn ccn lcx ccx lmv cmv lmn cmn lmx cmx : Nat) (ci ct k a : Int) (w : World) (vc nc xc vm nm xm : List Int) (h1 : ci ≤ k)
    (hvc : Ints w.heap.size w (.slice pcv lcv ccv) vc) (hnc : Ints w.heap.size w (.slice pcn lcn ccn) nc) (hxc : Byts w.heap.size w (.slice pcx lcx ccx) xc)
    (hvm : Ints w.heap.size w (.slice pmv lmv cmv) vm) (hnm : Ints w.heap.size w (.slice pmn lmn cmn) nm) (hxm : Byts w.heap.size w (.slice pmx lmx cmx) xm)
    (l1 : vc.length ≤ 1000000) (l2 : nc.length ≤ 1000000) (l3 : vm.length ≤ 1000000) (l4 : nm.length ≤ 1000000) :
    Calls Try.prog 8 #[chg (.slice pcv lcv ccv) (.slice pcn lcn ccn) (.slice pcx lcx ccx) ci ct, sta (.slice pmv lmv cmv) (.slice pmn lmn cmn) (.slice pmx lmx cmx) ci k a] w fun e w' =>
      e = .returned (.int .u8 (outC k a ci ct ci (sameM vm nm xm vc nc xc))) ∧ Below w.heap.size w w' := by
  obtain ⟨A, hA⟩ : ∃ A : Array Value, A = #[.slice pcv lcv ccv, .slice pcn lcn ccn, .int .u64 ci, .slice pcx lcx ccx, .int .u64 ct, .int .u64 0, .int .u64 0, .int .u64 0, .int .u64 0, .int .i64 0, .pointer none] := ⟨_, rfl⟩
  obtain ⟨B, hB⟩ : ∃ B : Array Value, B = #[.int .u64 0, .int .u64 0, .int .u64 0, .int .u64 k, .int .u64 0, .int .u64 a, .int .u64 0, .int .u64 0, .bool false, .slice pmv lmv cmv, .slice pmn lmn cmn, .int .u64 ci, .slice pmx lmx cmx, .bool false, .slice none 0 0, .slice none 0 0, .int .u64 0, .slice none 0 0, .int .u64 0, .int .u64 0] := ⟨_, rfl⟩
  obtain ⟨C, hC⟩ : ∃ C : Array Value, C = #[.slice pmv lmv cmv, .slice pmn lmn cmn, .int .u64 ci, .slice pmx lmx cmx] := ⟨_, rfl⟩
  obtain ⟨W0, hW0⟩ : ∃ W0, W0 = ((w.alloc (.cells A 34)).alloc (.cells B 36)).alloc (.cells C 27) := ⟨_, rfl⟩
  have hz0 : W0.heap.size = w.heap.size + 3 := by rw [hW0]; simp
  have hb0 : Below w.heap.size w W0 := by rw [hW0]; exact (((Below.refl _ w).alloc (Nat.le_refl _) _).alloc (by simp) _).alloc (by simp; omega) _
  have mv : ∀ {v z}, Ints w.heap.size w v z → Ints W0.heap.size W0 v z := fun h => (h.below hb0).mono (by omega)
  have mx : ∀ {v z}, Byts w.heap.size w v z → Byts W0.heap.size W0 v z := fun h => (h.below hb0).mono (by omega)
  have cS := same_any pmv pmn pmx pcv pcn pcx lmv cmv lmn cmn lmx cmx lcv ccv lcn ccn lcx ccx ci ci vm nm xm vc nc xc W0 (mv hvm) (mv hnm) (mx hxm) (mv hvc) (mv hnc) (mx hxc) l3 l4 l1 l2
  have HB : Hid (Below w.heap.size w W0) := hb0
  clear hvc hnc hxc hvm hnm hxm mv mx hz0 hb0
  cases hs : sameM vm nm xm vc nc xc
  · rw [hs] at cS
    have hr : outC k a ci ct ci false = 2 := by unfold outC; rw [if_neg (by omega), if_neg (by simp), if_neg (by omega)]
    rw [hr]
    clear hr hs
    subst hA hB hC hW0
    go_enter Try.func8, Try.ntmps8
    go_wp2_with fail
    refine cS.mono ?_
    rintro e w2 ⟨rfl, hb2⟩
    clear cS
    have e2 : w2.cell? ⟨w.heap.size + 1 + 1, 2, none⟩ = some (.int .u64 ci) := by rw [hb2.cell (p := ⟨w.heap.size + 1 + 1, 2, none⟩) (by simp), World.cell?_alloc_at _ _ _ _ (by simp)]; rfl
    have f2 : w2.cell? ⟨w.heap.size, 2, none⟩ = some (.int .u64 ci) := by rw [hb2.cell (p := ⟨w.heap.size, 2, none⟩) (by simp; omega), World.cell?_alloc_past _ _ _ (by simp; omega), World.cell?_alloc_past _ _ _ (by simp), World.cell?_alloc_at _ _ _ _ rfl]; rfl
    have HB2 : Hid (Below w.heap.size w w2) := HB.out.trans (hb2.mono (by simp; omega))
    clear HB hb2
    go_wp2
    go_ret
    exact ⟨rfl, HB2.out⟩
  · rw [hs] at cS
    have hr : outC k a ci ct ci true = 1 := by unfold outC; rw [if_neg (by omega), if_pos ⟨h1, rfl, rfl⟩]
    rw [hr]
    clear hr hs
    subst hA hB hC hW0
    go_enter Try.func8, Try.ntmps8
    go_wp2_with fail
    refine cS.mono ?_
    rintro e w2 ⟨rfl, hb2⟩
    clear cS
    have HB2 : Hid (Below w.heap.size w w2) := HB.out.trans (hb2.mono (by simp; omega))
    clear HB hb2
    go_wp2
    go_ret
    exact ⟨rfl, HB2.out⟩

/-- Outcome, at every input -/
theorem out_any (pcv pcn pcx pmv pmn pmx : Option Addr) (lcv ccv lcn ccn lcx ccx lmv cmv lmn cmn lmx cmx : Nat) (ci ct mi k a : Int) (w : World) (vc nc xc vm nm xm : List Int)
    (hvc : Ints w.heap.size w (.slice pcv lcv ccv) vc) (hnc : Ints w.heap.size w (.slice pcn lcn ccn) nc) (hxc : Byts w.heap.size w (.slice pcx lcx ccx) xc)
    (hvm : Ints w.heap.size w (.slice pmv lmv cmv) vm) (hnm : Ints w.heap.size w (.slice pmn lmn cmn) nm) (hxm : Byts w.heap.size w (.slice pmx lmx cmx) xm)
    (l1 : vc.length ≤ 1000000) (l2 : nc.length ≤ 1000000) (l3 : vm.length ≤ 1000000) (l4 : nm.length ≤ 1000000) :
    Calls Try.prog 8 #[chg (.slice pcv lcv ccv) (.slice pcn lcn ccn) (.slice pcx lcx ccx) ci ct, sta (.slice pmv lmv cmv) (.slice pmn lmn cmn) (.slice pmx lmx cmx) mi k a] w fun e w' =>
      e = .returned (.int .u8 (outC k a ci ct mi (sameM vm nm xm vc nc xc))) ∧ Below w.heap.size w w' := by
  by_cases h : ci ≤ k ∧ mi = ci
  · obtain ⟨h1, rfl⟩ := h
    exact out_same pcv pcn pcx pmv pmn pmx lcv ccv lcn ccn lcx ccx lmv cmv lmn cmn lmx cmx mi ct k a w vc nc xc vm nm xm h1 hvc hnc hxc hvm hnm hxm l1 l2 l3 l4
  · exact out_plain pcv pcn pcx pmv pmn pmx lcv ccv lcn ccn lcx ccx lmv cmv lmn cmn lmx cmx ci ct mi k a w _ h
end Go.Proofs.Qxb6631326a
