/-
  MeanMillis, walked: its text is fmt's told text of the number of tenths.
-/
import Derived.Test.Qxb6632257aFmtFacts
import Derived.WalkKit
import Derived.WalkSpells
import Derived.Lib.ItoaLen
import Derived.Test.Qxb6632257aFmtPlain
namespace Go.Proofs.Qxb6632257aFmt
open Go.RowKit Go.Extern.Stop Go.Stop Go.Extern Go.Kit

def reading (q r : Int) : List (List UInt8) := [[37, 100, 46, 37, 100], Tryf.shape2, digits 8 (q % 18446744073709551616).toNat, Tryf.shape2, digits 8 (r % 18446744073709551616).toNat]
theorem t_parse : (FmtText.parse [37, 100, 46, 37, 100]).map FmtText.glue = some [.verb {} 100, .lit [46], .verb {} 100] := by rfl
theorem t_text (q r : Int) (hq : (Lit.int .i64 q).wf = true) (hr : (Lit.int .i64 r).wf = true) : FmtText.text "fmt.Sprintf" (reading q r) = some (Lib.itoa q ++ [46] ++ Lib.itoa r) := by
  have h1 := FmtText.operand_int_at (sh := Tryf.shape2) (k := .i64) rfl rfl q hq
  have h2 := FmtText.operand_int_at (sh := Tryf.shape2) (k := .i64) rfl rfl r hr
  rw [reading, FmtText.text_sprintf_glued t_parse (FmtText.operands_cons h1 (FmtText.operands_cons h2 FmtText.operands_nil))]
  simp [FmtText.render, FmtText.printArg_d _ _ hq, FmtText.printArg_d _ _ hr]

theorem wf_i64 {x : Int} (h0 : 0 ≤ x) (h1 : x ≤ 9223372036854775807) : (Lit.int .i64 x).wf = true := by
  simp only [Lit.wf, Bool.and_eq_true, decide_eq_true_eq]
  exact ⟨by show -9223372036854775808 ≤ x; omega, by show x ≤ 9223372036854775807; omega⟩

theorem text_told (F : Interp) (T : Int) (h0 : 0 ≤ T) (h1 : T ≤ 9223372036854775807) : FmtStop.textOf (F.told "fmt.Sprintf" (reading (T / 10) (T % 10)) 0) = shownB T := by
  have a1 := Lib.itoa_length_le (T / 10) (by omega) (by omega)
  have a2 := Lib.itoa_length_le (T % 10) (by omega) (by omega)
  have ht := told_string F (t_text (T / 10) (T % 10) (wf_i64 (by omega) (by omega)) (wf_i64 (by omega) (by omega))) (by simp; omega)
  rw [← textOf_list] at ht
  exact WideShapes.bytes_inj (by rw [ht]; simp [shownB, shown])

theorem ret_str {a b : ByteArray} (h : a = b) : Ending.returned (.string a) = .returned (.string b) := by rw [h]
theorem tape_alloc_drew (w : World) (o : Obj) : (w.alloc o).drew.tape = w.tape := rfl

set_option maxHeartbeats 400000 in
/-- MeanMillis at a count that is not 0: the text of the number T of tenths -/
theorem mean_pos (F : Interp) (s n T : Int) (w : World) (hF : F.told.answers w.tape) (hn : 1 ≤ n) (hn2 : n ≤ 92233720368547) (hs : 0 ≤ s) (hs2 : s + n * 50000 ≤ 9223372036854775807)
    (hT : Hid ((s + n * 100000 / 2) / (n * 100000) = T)) (hT0 : 0 ≤ T) (hT1 : T ≤ 9223372036854775807) :
    Calls Tryf.prog 5 #[.int .i64 s, .int .i64 n] w fun e w' => e = .returned (.string (shownB T)) ∧ w'.tape = w.tape ∧ Grown w w' := by
  have hF' := answers_open hF
  have hq0 : 0 ≤ (s + n * 100000 / 2) / (n * 100000) := by rw [hT.out]; exact hT0
  have hq1 : (s + n * 100000 / 2) / (n * 100000) ≤ 9223372036854775807 := by rw [hT.out]; exact hT1
  go_enter Tryf.func5, Tryf.ntmps5
  go_wp2
  go_ret
  refine ⟨ret_str ?_, rfl, Grown.drew (Grown.alloc (Grown.refl _) _ _)⟩
  have e := hT.out
  have h := text_told F T hT0 hT1
  rw [← e] at h
  rw [← e]
  exact h

set_option maxHeartbeats 400000 in
/-- MeanMillis at a count of 0 -/
theorem mean_zero (s : Int) (w : World) :
    Calls Tryf.prog 5 #[.int .i64 s, .int .i64 0] w fun e w' => e = .returned (.string ⟨#[48, 46, 48]⟩) ∧ w' = w := by
  go_enter Tryf.func5, Tryf.ntmps5
  go_wp2
  go_ret
  exact ⟨rfl, rfl⟩

set_option maxHeartbeats 1000000 in
/-- zzParseTenths at a text of the right shape: a dot at place m, digits elsewhere, no idle leading zero; V: what the digits up to a place come to -/
theorem parse_any (s : ByteArray) (m : Nat) (V : Nat → Int) (w : World) (hsz : s.size = m + 2) (hm : 1 ≤ m) (hm2 : m ≤ 1000)
    (hdot : ∀ h : m < s.size, (s[m].toNat : Int) = 46) (hdig : ∀ i (h : i < s.size), i ≠ m → 48 ≤ (s[i].toNat : Int) ∧ (s[i].toNat : Int) ≤ 57)
    (hz : ∀ h : 0 < s.size, 1 < m → (s[0].toNat : Int) ≠ 48)
    (hV0 : V 0 = 0) (hVm : V (m + 1) = V m) (hV : ∀ i (h : i < s.size), i ≠ m → V (i + 1) = V i * 10 + ((s[i].toNat : Int) - 48)) (hVn : ∀ i, 0 ≤ V i) (hVx : ∀ i, i ≤ s.size → V i ≤ 9223372036854775807) :
    Calls Tryf.prog 6 #[.string s] w fun e w' => e = .returned (.tuple #[.int .i64 (V (m + 2)), .bool true]) ∧ w' = w := by
  have HV0 : Hid (V 0 = 0) := hV0
  have HVm : Hid (V (m + 1) = V m) := hVm
  have HV : Hid (∀ i (h : i < s.size), i ≠ m → V (i + 1) = V i * 10 + ((s[i].toNat : Int) - 48)) := hV
  have HVx : Hid (∀ i, i ≤ s.size → V i ≤ 9223372036854775807) := hVx
  have HVn : Hid (∀ i, 0 ≤ V i) := hVn
  have Hdot : Hid (∀ h : m < s.size, (s[m].toNat : Int) = 46) := hdot
  have Hdig : Hid (∀ i (h : i < s.size), i ≠ m → 48 ≤ (s[i].toNat : Int) ∧ (s[i].toNat : Int) ≤ 57) := hdig
  have Hz : Hid (∀ h : 0 < s.size, 1 < m → (s[0].toNat : Int) ≠ 48) := hz
  have Hsz : Hid (s.size = m + 2) := hsz
  have hs1 : m + 1 < s.size := by omega
  have hs2 : s.size ≤ m + 2 := by omega
  clear hV0 hVm hV hVx hVn hdot hdig hz hsz
  go_enter Tryf.func6, Tryf.ntmps6
  go_wp2
  go_loop [4, 5] (fun d i => ∃ k : Nat, k ≤ m ∧ i = .int .i64 k ∧ d = .int .i64 (-1)) (fun _ i => s.size - (intOf i).toNat)
  case atStart => exact ⟨0, Nat.zero_le _, rfl, rfl⟩
  case round =>
    obtain ⟨k, hk, rfl, rfl⟩ := hrel
    have hlt : k < s.size := by omega
    by_cases hkm : k = m
    · subst hkm
      have hd := Hdot.out hlt
      have hb : (((s[k].toNat : Int)) == 46) = true := by rw [hd]; rfl
      clear hd
      have hne : ((k : Int) != (s.size : Int) - 2) = false := by have := Hsz.out; simp; omega
      have hc : (1 < k ∧ ((s[0].toNat : Int) == 48) = false) ∨ ¬ 1 < k := by
        by_cases h1 : 1 < k
        · exact .inl ⟨h1, by simpa using Hz.out (by omega) h1⟩
        · exact .inr h1
      rcases hc with ⟨h1, hzb⟩ | h1
      all_goals
        go_wp2
        go_loop [6, 7] (fun t i => ∃ j : Nat, j ≤ s.size ∧ i = .int .i64 j ∧ t = .int .i64 (V j)) (fun _ i => s.size - (intOf i).toNat)
        case atStart => exact ⟨0, Nat.zero_le _, rfl, by rw [HV0.out]⟩
        case round =>
          obtain ⟨j, hj, rfl, rfl⟩ := hrel
          have hjn := HVn.out j
          have hjx := HVx.out j hj
          by_cases hlj : j < s.size
          · by_cases hjk : j = k
            · have hjb : ((j : Int) == (k : Int)) = true := by simp [hjk]
              have HJ : Hid (j = k) := hjk
              clear hjk
              go_wp2
              go_round
              case rel => exact ⟨j + 1, by omega, by go_num, by rw [HJ.out, HVm.out]⟩
              case measure => simp [intOf]; omega
            · have hjb : ((j : Int) == (k : Int)) = false := by simp; omega
              have hd := Hdig.out j hlj hjk
              have HS : Hid (V (j + 1) = V j * 10 + ((s[j].toNat : Int) - 48)) := HV.out j hlj hjk
              have hx : V j * 10 + ((s[j].toNat : Int) - 48) ≤ 9223372036854775807 := by have := HVx.out (j + 1) (by omega); rw [HS.out] at this; exact this
              go_wp2
              go_round
              case rel => exact ⟨j + 1, by omega, by go_num, by rw [HS.out]⟩
              case measure => simp [intOf]; omega
          · go_wp2
            go_ret2
            obtain rfl : j = k + 2 := by have := Hsz.out; omega
            exact ⟨rfl, rfl⟩
    · have hd := Hdig.out k hlt hkm
      have hb : (((s[k].toNat : Int)) == 46) = false := by simp; omega
      go_wp2
      go_round
      case rel => exact ⟨k + 1, by omega, by go_num, rfl⟩
      case measure => simp [intOf]; omega

/-- zzParseTenths reads back the number of tenths that MeanMillis's text shows -/
theorem parse_shown (T : Int) (w : World) (h0 : 0 ≤ T) (h1 : T ≤ 9223372036854775807) :
    Calls Tryf.prog 6 #[.string (shownB T)] w fun e w' => e = .returned (.tuple #[.int .i64 T, .bool true]) ∧ w' = w := by
  obtain ⟨t, rfl⟩ : ∃ t : Nat, T = (t : Int) := ⟨T.toNat, by omega⟩
  have hsz : (shownB t).size = (Lib.decDigits (t / 10)).length + 2 := by rw [← shown_length t]; simp [shownB, ByteArray.size]
  have hl : (shown t).length = (shownB t).size := by simp [shownB, ByteArray.size]
  have he : ∀ i (h : i < (shownB t).size), (shownB t)[i] = (shown t)[i]'(by omega) := fun i h => by simp [shownB, ByteArray.getElem_eq_getElem_data]
  have hm2 := dd_len (t / 10) (by omega)
  have H := parse_any (shownB t) (Lib.decDigits (t / 10)).length (fun j => (V t j : Int)) w hsz (dd_pos _) (by omega)
    (fun h => by rw [he _ h]; have := shown_dot t (by omega); omega)
    (fun i h hi => by rw [he _ h]; have := shown_at t i (by omega) hi; omega)
    (fun h hm => by rw [he _ h]; have := shown_first t (by omega) hm; omega)
    (by simp [V_zero]) (by simp [V_dot])
    (fun i h hi => by rw [he _ h]; have := shown_at t i (by omega) hi; omega)
    (fun i => by omega) (fun i _ => by have := V_le t i; omega)
  simp only [V_end] at H
  exact H
end Go.Proofs.Qxb6632257aFmt
