/-
  The second law of the seat, walked.
-/
import Derived.Test.Qxb6632257aFmtMean
namespace Go.Proofs.Qxb6632257aFmt.shifts
open Go.RowKit Go.Extern.Stop Go.Stop Go.Extern Go.Kit

theorem bd {x : Int} (h : (Lit.int .i64 x).wf = true) : -9223372036854775808 ≤ x ∧ x ≤ 9223372036854775807 := by
  simp only [Lit.wf, Bool.and_eq_true, decide_eq_true_eq] at h
  exact ⟨h.1, h.2⟩
theorem shift (s n j : Int) (hn : 1 ≤ n) : (s + j * (n * 100000) + n * 100000 / 2) / (n * 100000) = (s + n * 100000 / 2) / (n * 100000) + j := by
  rw [show s + j * (n * 100000) + n * 100000 / 2 = (s + n * 100000 / 2) + j * (n * 100000) by omega]
  exact Int.add_mul_ediv_right _ _ (by omega)
theorem grown_trans {a b c : World} (h1 : Grown a b) (h2 : Grown b c) : Grown a c :=
  ⟨World.keptBut_trans h1.1 h2.1, fun x => (h2.2.1 x).trans (h1.2.1 x), Nat.le_trans h1.2.2 h2.2.2⟩

set_option maxHeartbeats 1000000 in
theorem walkZero (s j : Int) (w : World) (hs : 0 ≤ s) (hs2 : s ≤ 9223372036854775807) (hj : -65536 ≤ j) (hj2 : j ≤ 65536) :
    Calls Tryf.prog 4 #[.int .i64 s, .int .i64 0, .int .i64 j] w fun e w' => e = .returned (.bool true) ∧ Grown w w' := by
  by_cases c1 : j < 0
  · by_cases c2 : s < -j
    all_goals
      go_enter Tryf.func4, Tryf.ntmps4
      go_wp2_with (go_at_call 5; refine (mean_zero _ _).mono ?_; rintro e w' ⟨rfl, rfl⟩)
      go_ret
      exact ⟨rfl, Grown.refl _⟩
  · by_cases c3 : 0 < j
    · by_cases c4 : 9223372036854775807 - j < s
      all_goals
        go_enter Tryf.func4, Tryf.ntmps4
        go_wp2_with (go_at_call 5; refine (mean_zero _ _).mono ?_; rintro e w' ⟨rfl, rfl⟩)
        go_ret
        exact ⟨rfl, Grown.refl _⟩
    · go_enter Tryf.func4, Tryf.ntmps4
      go_wp2_with (go_at_call 5; refine (mean_zero _ _).mono ?_; rintro e w' ⟨rfl, rfl⟩)
      go_ret
      exact ⟨rfl, Grown.refl _⟩

set_option maxHeartbeats 2000000 in
/-- the shifted sum stays in range -/
theorem walkMain (F : Interp) (s n j : Int) (w : World) (hF : F.told.answers w.tape) (hs : 0 ≤ s) (hn : 1 ≤ n) (hn2 : n ≤ 92233720368547) (hs2 : s ≤ 9223372036854775807 - n * 100000 / 2) (hj : -65536 ≤ j) (hj2 : j ≤ 65536)
    (hside : (0 ≤ j ∧ j ≤ (9223372036854775807 - n * 100000 / 2 - s) / (n * 100000)) ∨ (j < 0 ∧ -j ≤ s / (n * 100000)))
    (hs3 : 0 ≤ s + j * (n * 100000)) (hs4 : s + j * (n * 100000) ≤ 9223372036854775807 - n * 100000 / 2)
    (T : Int) (hT : Hid ((s + n * 100000 / 2) / (n * 100000) = T)) (hT' : Hid ((s + j * (n * 100000) + n * 100000 / 2) / (n * 100000) = T + j))
    (hT0 : 0 ≤ T) (hT1 : T ≤ 9223372036854775807) (hT2 : T ≤ 9223372036854775807 / (n * 100000))
    (hU0 : 0 ≤ T + j) (hU1 : T + j ≤ 9223372036854775807) (hU2 : T + j ≤ 9223372036854775807 / (n * 100000)) :
    Calls Tryf.prog 4 #[.int .i64 s, .int .i64 n, .int .i64 j] w fun e w' => e = .returned (.bool true) ∧ Grown w w' := by
  have hF2 : Hid (F.told.answers w.tape) := hF
  clear hF
  rcases hside with ⟨c1, c2⟩ | ⟨c1, c2⟩
  all_goals
    go_enter Tryf.func4, Tryf.ntmps4
    go_wp2_with fail
    refine (mean_pos F s n T _ hF2.out hn hn2 hs (by omega) hT hT0 hT1).mono ?_
    rintro e w1 ⟨rfl, ht1, hg1⟩
    have HT1 : Hid (w1.tape = w.tape) := ht1
    clear ht1
    go_wp2_with fail
    refine (parse_shown T _ hT0 hT1).mono ?_
    rintro e w' ⟨rfl, rfl⟩
    go_wp2_with fail
    refine (mean_pos F (s + j * (n * 100000)) n (T + j) _ (by rw [HT1.out]; exact hF2.out) hn hn2 hs3 (by omega) hT' hU0 hU1).mono ?_
    rintro e w2 ⟨rfl, ht2, hg2⟩
    clear ht2
    go_wp2_with fail
    refine (parse_shown (T + j) _ hU0 hU1).mono ?_
    rintro e w' ⟨rfl, rfl⟩
    go_wp2
    go_ret
    exact ⟨rfl, grown_trans hg1 hg2⟩

set_option maxHeartbeats 1000000 in
/-- every input: the law returns true -/
theorem walk (F : Interp) (s n j : Int) (ws : (Lit.int .i64 s).wf = true) (wn : (Lit.int .i64 n).wf = true) (wj : (Lit.int .i64 j).wf = true) (w : World) (hF : F.told.answers w.tape) :
    Calls Tryf.prog 4 #[.int .i64 s, .int .i64 n, .int .i64 j] w fun e w' => e = .returned (.bool true) ∧ Grown w w' := by
  have hs := bd ws
  have hn := bd wn
  have hj := bd wj
  clear ws wn wj
  by_cases c1 : s < 0
  · clear hF
    go_enter Tryf.func4, Tryf.ntmps4
    go_wp2
    go_ret
    exact ⟨rfl, Grown.refl _⟩
  by_cases c2 : n < 0
  · clear hF
    go_enter Tryf.func4, Tryf.ntmps4
    go_wp2
    go_ret
    exact ⟨rfl, Grown.refl _⟩
  by_cases c3 : 92233720368547 < n
  · clear hF
    go_enter Tryf.func4, Tryf.ntmps4
    go_wp2
    go_ret
    exact ⟨rfl, Grown.refl _⟩
  by_cases c4 : j < -65536
  · clear hF
    go_enter Tryf.func4, Tryf.ntmps4
    go_wp2
    go_ret
    exact ⟨rfl, Grown.refl _⟩
  by_cases c5 : 65536 < j
  · clear hF
    go_enter Tryf.func4, Tryf.ntmps4
    go_wp2
    go_ret
    exact ⟨rfl, Grown.refl _⟩
  by_cases c6 : 9223372036854775807 - n * 100000 / 2 < s
  · clear hF
    go_enter Tryf.func4, Tryf.ntmps4
    go_wp2
    go_ret
    exact ⟨rfl, Grown.refl _⟩
  by_cases c7 : n = 0
  · subst c7
    exact walkZero s j w (by omega) hs.2 (by omega) (by omega)
  by_cases c8 : 0 ≤ j
  · by_cases c9 : (9223372036854775807 - n * 100000 / 2 - s) / (n * 100000) < j
    · clear hF
      go_enter Tryf.func4, Tryf.ntmps4
      go_wp2
      go_ret
      exact ⟨rfl, Grown.refl _⟩
    · have hm := Int.mul_le_of_le_ediv (a := j) (b := 9223372036854775807 - n * 100000 / 2 - s) (c := n * 100000) (by omega) (by omega)
      have hm0 : 0 ≤ j * (n * 100000) := Int.mul_nonneg c8 (by omega)
      have e := shift s n j (by omega)
      have hT0 : 0 ≤ (s + n * 100000 / 2) / (n * 100000) := Int.ediv_nonneg (by omega) (by omega)
      have hT2 : (s + n * 100000 / 2) / (n * 100000) ≤ 9223372036854775807 / (n * 100000) := Int.ediv_le_ediv (by omega) (by omega)
      have hU2 : (s + j * (n * 100000) + n * 100000 / 2) / (n * 100000) ≤ 9223372036854775807 / (n * 100000) := Int.ediv_le_ediv (by omega) (by omega)
      have hX : 9223372036854775807 / (n * 100000) ≤ 9223372036854775807 := Int.ediv_le_self _ (by omega)
      exact walkMain F s n j w hF (by omega) (by omega) (by omega) (by omega) (by omega) (by omega) (.inl ⟨c8, by omega⟩) (by omega) (by omega) _ (show Hid _ from rfl) e hT0 (by omega) hT2 (by omega) (by omega) (by omega)
  · by_cases c9 : s / (n * 100000) < -j
    · clear hF
      go_enter Tryf.func4, Tryf.ntmps4
      go_wp2
      go_ret
      exact ⟨rfl, Grown.refl _⟩
    · have hm := Int.mul_le_of_le_ediv (a := -j) (b := s) (c := n * 100000) (by omega) (by omega)
      have hm1 : -j * (n * 100000) = -(j * (n * 100000)) := Int.neg_mul _ _
      have hm0 : 0 ≤ -j * (n * 100000) := Int.mul_nonneg (by omega) (by omega)
      have e := shift s n j (by omega)
      have hT0 : 0 ≤ (s + n * 100000 / 2) / (n * 100000) := Int.ediv_nonneg (by omega) (by omega)
      have hT2 : (s + n * 100000 / 2) / (n * 100000) ≤ 9223372036854775807 / (n * 100000) := Int.ediv_le_ediv (by omega) (by omega)
      have hU0 : 0 ≤ (s + j * (n * 100000) + n * 100000 / 2) / (n * 100000) := Int.ediv_nonneg (by omega) (by omega)
      have hU2 : (s + j * (n * 100000) + n * 100000 / 2) / (n * 100000) ≤ 9223372036854775807 / (n * 100000) := Int.ediv_le_ediv (by omega) (by omega)
      have hX : 9223372036854775807 / (n * 100000) ≤ 9223372036854775807 := Int.ediv_le_self _ (by omega)
      exact walkMain F s n j w hF (by omega) (by omega) (by omega) (by omega) (by omega) (by omega) (.inr ⟨by omega, by omega⟩) (by omega) (by omega) _ (show Hid _ from rfl) e hT0 (by omega) hT2 (by omega) (by omega) (by omega)

end Go.Proofs.Qxb6632257aFmt.shifts
