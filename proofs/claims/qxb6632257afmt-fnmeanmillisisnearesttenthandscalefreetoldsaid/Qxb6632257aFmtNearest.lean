/-
  The first law of the seat, walked.
-/
import Derived.Test.Qxb6632257aFmtMean
namespace Go.Proofs.Qxb6632257aFmt.nearest
open Go.RowKit Go.Extern.Stop Go.Stop Go.Extern Go.Kit

theorem bd {x : Int} (h : (Lit.int .i64 x).wf = true) : -9223372036854775808 ≤ x ∧ x ≤ 9223372036854775807 := by
  simp only [Lit.wf, Bool.and_eq_true, decide_eq_true_eq] at h
  exact ⟨h.1, h.2⟩
theorem scale (s n k : Int) (hk : 1 ≤ k) : (s * k + n * k * 100000 / 2) / (n * k * 100000) = (s + n * 100000 / 2) / (n * 100000) := by
  have e1 : n * k * 100000 = (n * 100000) * k := by rw [Int.mul_right_comm]
  have e2 : n * k * 100000 / 2 = (n * 100000 / 2) * k := by
    have a : n * k * 100000 = (n * k * 50000) * 2 := by omega
    have b : n * 100000 / 2 = n * 50000 := by omega
    rw [a, b, Int.mul_ediv_cancel _ (by decide), Int.mul_right_comm]
  rw [e2, e1, ← Int.add_mul, Int.mul_ediv_mul_of_pos_left _ _ (by omega)]
theorem quot (a d : Int) (hd : 0 < d) : a / d * d ≤ a ∧ a < a / d * d + d := by
  have h1 := Int.mul_ediv_add_emod a d
  have h2 := Int.emod_nonneg a (by omega : d ≠ 0)
  have h3 := Int.emod_lt_of_pos a hd
  have : d * (a / d) = a / d * d := Int.mul_comm _ _
  omega

theorem neg_half (n : Int) (h0 : 0 ≤ n) (h1 : n ≤ 92233720368547) : wrap64 (-(n * 100000).tdiv 2) = -(n * 50000) := by
  have e : (n * 100000).tdiv 2 = n * 50000 := by rw [Int.tdiv_eq_ediv_of_nonneg (by omega)]; omega
  rw [e]
  unfold wrap64; omega
theorem mulk (s k M : Int) (hk : 0 < k) (h : s ≤ M / k) : s * k ≤ M := Int.mul_le_of_le_ediv hk h
theorem mul_one_le (n k : Int) (hn : 1 ≤ n) (hk : 1 ≤ k) : 1 ≤ n * k := by
  have := Int.mul_le_mul hn hk (by omega) (by omega)
  simpa using this
theorem grown_trans {a b c : World} (h1 : Grown a b) (h2 : Grown b c) : Grown a c :=
  ⟨World.keptBut_trans h1.1 h2.1, fun x => (h2.2.1 x).trans (h1.2.1 x), Nat.le_trans h1.2.2 h2.2.2⟩

set_option maxHeartbeats 1000000 in
theorem walkZero (s k : Int) (w : World) (hs : 0 ≤ s) (hs2 : s ≤ 9223372036854775807) (hk : 1 ≤ k) (hk2 : k ≤ 65536) :
    Calls Tryf.prog 3 #[.int .i64 s, .int .i64 0, .int .i64 k] w fun e w' => e = .returned (.bool true) ∧ Grown w w' := by
  by_cases hc : s ≤ 9223372036854775807 / k
  · go_enter Tryf.func3, Tryf.ntmps3
    go_wp2_with (go_at_call 5; refine (mean_zero _ _).mono ?_; rintro e w' ⟨rfl, rfl⟩)
    go_ret
    exact ⟨rfl, Grown.refl _⟩
  · go_enter Tryf.func3, Tryf.ntmps3
    go_wp2_with (go_at_call 5; refine (mean_zero _ _).mono ?_; rintro e w' ⟨rfl, rfl⟩)
    go_ret
    exact ⟨rfl, Grown.refl _⟩

set_option maxHeartbeats 1000000 in
theorem walkMain (F : Interp) (s n k : Int) (w : World) (hF : F.told.answers w.tape) (hs : 0 ≤ s) (hn : 1 ≤ n) (hn2 : n ≤ 92233720368547) (hs2 : s ≤ 9223372036854775807 - n * 100000 / 2) (hk : 1 ≤ k) (hk2 : k ≤ 65536)
    (T : Int) (hT : Hid ((s + n * 100000 / 2) / (n * 100000) = T)) (hp : T * (n * 100000) ≤ s + n * 50000) (hq : s + n * 50000 < T * (n * 100000) + n * 100000)
    (hT0 : 0 ≤ T) (hT1 : T ≤ 9223372036854775807) (hT2 : T ≤ 9223372036854775807 / (n * 100000))
    (m0 : 0 ≤ n * k) (m1 : n * k ≤ 6044629098592000000) (p0 : 0 ≤ T * (n * 100000)) :
    Calls Tryf.prog 3 #[.int .i64 s, .int .i64 n, .int .i64 k] w fun e w' => e = .returned (.bool true) ∧ Grown w w' := by
  have hF2 : Hid (F.told.answers w.tape) := hF
  clear hF
  have hneg : wrap64 (-(n * 100000).tdiv 2) ≤ s - T * (n * 100000) := by rw [neg_half n (by omega) hn2]; omega
  have hlast : s - T * (n * 100000) < n * 100000 / 2 := by omega
  by_cases hc : n * k ≤ 92233720368547
  · by_cases hd : s ≤ (9223372036854775807 - n * k * 100000 / 2) / k
    · have hm := mulk s k _ (by omega) hd
      have hm0 : 0 ≤ s * k := Int.mul_nonneg hs (by omega)
      go_enter Tryf.func3, Tryf.ntmps3
      go_wp2_with fail
      refine (mean_pos F s n T _ hF2.out hn hn2 hs (by omega) hT hT0 hT1).mono ?_
      rintro e w1 ⟨rfl, ht1, hg1⟩
      have HT1 : Hid (w1.tape = w.tape) := ht1
      clear ht1
      go_wp2_with fail
      refine (mean_pos F (s * k) (n * k) T _ (by rw [HT1.out]; exact hF2.out) (mul_one_le n k hn hk) hc hm0 (by omega) (by show (s * k + n * k * 100000 / 2) / (n * k * 100000) = T; rw [scale s n k hk]; exact hT.out) hT0 hT1).mono ?_
      rintro e w2 ⟨rfl, ht2, hg2⟩
      clear ht2
      go_wp2_with (go_at_call 6; refine (parse_shown T _ hT0 hT1).mono ?_; rintro e w' ⟨rfl, rfl⟩)
      go_ret
      exact ⟨rfl, grown_trans hg1 hg2⟩
    · go_enter Tryf.func3, Tryf.ntmps3
      go_wp2_with fail
      refine (mean_pos F s n T _ hF2.out hn hn2 hs (by omega) hT hT0 hT1).mono ?_
      rintro e w1 ⟨rfl, ht1, hg1⟩
      clear ht1
      go_wp2_with (go_at_call 6; refine (parse_shown T _ hT0 hT1).mono ?_; rintro e w' ⟨rfl, rfl⟩)
      go_ret
      exact ⟨rfl, hg1⟩
  · go_enter Tryf.func3, Tryf.ntmps3
    go_wp2_with fail
    refine (mean_pos F s n T _ hF2.out hn hn2 hs (by omega) hT hT0 hT1).mono ?_
    rintro e w1 ⟨rfl, ht1, hg1⟩
    clear ht1
    go_wp2_with (go_at_call 6; refine (parse_shown T _ hT0 hT1).mono ?_; rintro e w' ⟨rfl, rfl⟩)
    go_ret
    exact ⟨rfl, hg1⟩

set_option maxHeartbeats 1000000 in
/-- every input: the law returns true -/
theorem walk (F : Interp) (s n k : Int) (ws : (Lit.int .i64 s).wf = true) (wn : (Lit.int .i64 n).wf = true) (wk : (Lit.int .i64 k).wf = true) (w : World) (hF : F.told.answers w.tape) :
    Calls Tryf.prog 3 #[.int .i64 s, .int .i64 n, .int .i64 k] w fun e w' => e = .returned (.bool true) ∧ Grown w w' := by
  have hs := bd ws
  have hn := bd wn
  have hk := bd wk
  clear ws wn wk
  by_cases c1 : s < 0
  · clear hF
    go_enter Tryf.func3, Tryf.ntmps3
    go_wp2
    go_ret
    exact ⟨rfl, Grown.refl _⟩
  by_cases c2 : n < 0
  · clear hF
    go_enter Tryf.func3, Tryf.ntmps3
    go_wp2
    go_ret
    exact ⟨rfl, Grown.refl _⟩
  by_cases c3 : 92233720368547 < n
  · clear hF
    go_enter Tryf.func3, Tryf.ntmps3
    go_wp2
    go_ret
    exact ⟨rfl, Grown.refl _⟩
  by_cases c4 : k < 1
  · clear hF
    go_enter Tryf.func3, Tryf.ntmps3
    go_wp2
    go_ret
    exact ⟨rfl, Grown.refl _⟩
  by_cases c5 : 65536 < k
  · clear hF
    go_enter Tryf.func3, Tryf.ntmps3
    go_wp2
    go_ret
    exact ⟨rfl, Grown.refl _⟩
  by_cases c6 : 9223372036854775807 - n * 100000 / 2 < s
  · clear hF
    go_enter Tryf.func3, Tryf.ntmps3
    go_wp2
    go_ret
    exact ⟨rfl, Grown.refl _⟩
  by_cases c7 : n = 0
  · subst c7
    exact walkZero s k w (by omega) hs.2 (by omega) (by omega)
  have hq := quot (s + n * 100000 / 2) (n * 100000) (by omega)
  have hT0 : 0 ≤ (s + n * 100000 / 2) / (n * 100000) := Int.ediv_nonneg (by omega) (by omega)
  have p0 : 0 ≤ (s + n * 100000 / 2) / (n * 100000) * (n * 100000) := Int.mul_nonneg hT0 (by omega)
  have hT2 : (s + n * 100000 / 2) / (n * 100000) ≤ 9223372036854775807 / (n * 100000) := Int.ediv_le_ediv (by omega) (by omega)
  have hT1 : (s + n * 100000 / 2) / (n * 100000) ≤ 9223372036854775807 := by
    have := Int.ediv_le_self (a := s + n * 100000 / 2) (n * 100000) (by omega)
    omega
  have m0 : 0 ≤ n * k := Int.mul_nonneg (by omega) (by omega)
  have m1 : n * k ≤ n * 65536 := Int.mul_le_mul_of_nonneg_left (by omega) (by omega)
  exact walkMain F s n k w hF (by omega) (by omega) (by omega) (by omega) (by omega) (by omega) _ (show Hid _ from rfl) (by omega) (by omega) hT0 hT1 hT2 m0 (by omega) p0

end Go.Proofs.Qxb6632257aFmt.nearest
