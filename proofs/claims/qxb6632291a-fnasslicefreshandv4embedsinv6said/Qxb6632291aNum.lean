/-
  beNumber, bytesCompare, numCompare, walked.
-/
import Derived.Test.Qxb6632291aRows
import Derived.WalkKit
import Derived.WalkSpells
import Derived.WalkLawsBesides
import Derived.BigQuiet
namespace Go.Proofs.Qxb6632291a
open Go.RowKit

/-- k bytes from place o on, read as one number, the first the greatest -/
def hor (f : Nat → Int) (o : Nat) : Nat → Int
  | 0 => 0
  | k + 1 => hor f o k * 256 + f (o + k)
theorem hor_bd (f : Nat → Int) (o : Nat) (h : ∀ i, 0 ≤ f i ∧ f i ≤ 255) (k : Nat) : 0 ≤ hor f o k ∧ hor f o k < 256 ^ k := by
  induction k with
  | zero => simp [hor]
  | succ k ih =>
    have := h (o + k)
    have e : (256 : Int) ^ (k + 1) = 256 ^ k * 256 := Int.pow_succ _ _
    rw [e]; unfold hor; omega

theorem hor_succ (f : Nat → Int) (o k : Nat) : hor f o (k + 1) = hor f o k * 256 + f (o + k) := rfl
theorem hor_lt8 (f : Nat → Int) (o : Nat) (h : ∀ i, 0 ≤ f i ∧ f i ≤ 255) (k : Nat) (hk : k < 8) : 0 ≤ hor f o k ∧ hor f o k ≤ 72057594037927935 := by
  have hb := hor_bd f o h k
  have : (256 : Int) ^ k ≤ 256 ^ 7 := by
    rcases (show k = 0 ∨ k = 1 ∨ k = 2 ∨ k = 3 ∨ k = 4 ∨ k = 5 ∨ k = 6 ∨ k = 7 by omega) with rfl | rfl | rfl | rfl | rfl | rfl | rfl | rfl <;> decide
  omega
theorem int_eq {k : IntKind} {a b : Int} (h : a = b) : Value.int k a = .int k b := by rw [h]

set_option maxHeartbeats 1000000 in
theorem be4 (b off cap : Nat) (f : Nat → Int) (w : World) (hf : ∀ i, 0 ≤ f i ∧ f i ≤ 255) (hc : ∀ i, i < 4 → w.cell? ⟨b, off + i, none⟩ = some (.int .u8 (f i))) :
    Calls Try.prog 7 #[.slice (some ⟨b, off, none⟩) 4 cap] w fun e w' => e = .returned (.tuple #[.int .u64 0, .int .u64 (hor f 0 4), .bool true]) ∧ w' = w := by
  have HF : Hid (∀ i, 0 ≤ f i ∧ f i ≤ 255) := hf
  have HC : Hid (∀ i, i < 4 → w.cell? ⟨b, off + i, none⟩ = some (.int .u8 (f i))) := hc
  clear hf hc
  go_enter Try.func7, Try.ntmps7
  go_wp2
  go_loop [5, 6] (fun t i => ∃ k : Nat, k ≤ 4 ∧ i = .int .i64 k ∧ t = .int .u64 (hor f 0 k)) (fun _ i => 4 - (intOf i).toNat)
  case atStart => exact ⟨0, by omega, rfl, rfl⟩
  case round =>
    obtain ⟨k, hk, rfl, rfl⟩ := hrel
    by_cases hlt : k < 4
    · have hcell := HC.out k hlt
      have hfk := HF.out k
      have hb := hor_lt8 f 0 HF.out k (by omega)
      go_wp2
      go_round
      case rel => exact ⟨k + 1, by omega, by go_num, int_eq (by rw [hor_succ, Nat.zero_add])⟩
      case measure => simp [intOf]; omega
    · obtain rfl : k = 4 := by omega
      go_wp2
      go_ret3
      exact ⟨rfl, rfl⟩

set_option maxHeartbeats 1000000 in
theorem be16 (b off cap : Nat) (f : Nat → Int) (w : World) (hf : ∀ i, 0 ≤ f i ∧ f i ≤ 255) (hc : ∀ i, i < 16 → w.cell? ⟨b, off + i, none⟩ = some (.int .u8 (f i))) :
    Calls Try.prog 7 #[.slice (some ⟨b, off, none⟩) 16 cap] w fun e w' => e = .returned (.tuple #[.int .u64 (hor f 0 8), .int .u64 (hor f 8 8), .bool true]) ∧ w' = w := by
  have HF : Hid (∀ i, 0 ≤ f i ∧ f i ≤ 255) := hf
  have HC : Hid (∀ i, i < 16 → w.cell? ⟨b, off + i, none⟩ = some (.int .u8 (f i))) := hc
  clear hf hc
  go_enter Try.func7, Try.ntmps7
  go_wp2
  go_loop [7, 9] (fun t i => ∃ k : Nat, k ≤ 8 ∧ i = .int .i64 k ∧ t = .int .u64 (hor f 0 k)) (fun _ i => 8 - (intOf i).toNat)
  case atStart => exact ⟨0, by omega, rfl, rfl⟩
  case round =>
    obtain ⟨k, hk, rfl, rfl⟩ := hrel
    by_cases hlt : k < 8
    · have hcell := HC.out k (by omega)
      have hfk := HF.out k
      have hb := hor_lt8 f 0 HF.out k (by omega)
      go_wp2
      go_round
      case rel => exact ⟨k + 1, by omega, by go_num, int_eq (by rw [hor_succ, Nat.zero_add])⟩
      case measure => simp [intOf]; omega
    · obtain rfl : k = 8 := by omega
      go_wp2
      go_loop [8, 10] (fun t i => ∃ k : Nat, k ≤ 8 ∧ i = .int .i64 (8 + k : Nat) ∧ t = .int .u64 (hor f 8 k)) (fun _ i => 16 - (intOf i).toNat)
      case atStart => exact ⟨0, by omega, rfl, rfl⟩
      case round =>
        obtain ⟨k, hk, rfl, rfl⟩ := hrel
        by_cases hlt : k < 8
        · have hcell := HC.out (8 + k) (by omega)
          have hfk := HF.out (8 + k)
          have hb := hor_lt8 f 8 HF.out k (by omega)
          go_wp2
          go_round
          case rel => exact ⟨k + 1, by omega, by go_num, int_eq (by rw [hor_succ])⟩
          case measure => simp [intOf]; omega
        · obtain rfl : k = 8 := by omega
          go_wp2
          go_ret3
          exact ⟨rfl, rfl⟩

/-- numCompare's answer -/
def numCmp (h1 l1 h2 l2 : Int) : Int := if h1 < h2 then -1 else if h2 < h1 then 1 else if l1 < l2 then -1 else if l2 < l1 then 1 else 0
set_option maxHeartbeats 1000000 in
theorem num_any (h1 l1 h2 l2 : Int) (w : World) :
    Calls Try.prog 9 #[.int .u64 h1, .int .u64 l1, .int .u64 h2, .int .u64 l2] w fun e w' => e = .returned (.int .i64 (numCmp h1 l1 h2 l2)) ∧ w' = w := by
  by_cases c1 : h1 < h2
  · go_enter Try.func9, Try.ntmps9
    go_wp2
    go_ret
    exact ⟨by unfold numCmp; rw [if_pos c1]; rfl, rfl⟩
  by_cases c2 : h2 < h1
  · go_enter Try.func9, Try.ntmps9
    go_wp2
    go_ret
    exact ⟨by unfold numCmp; rw [if_neg (by omega), if_pos c2]; rfl, rfl⟩
  by_cases c3 : l1 < l2
  · go_enter Try.func9, Try.ntmps9
    go_wp2
    go_ret
    exact ⟨by unfold numCmp; rw [if_neg (by omega), if_neg (by omega), if_pos c3]; rfl, rfl⟩
  by_cases c4 : l2 < l1
  · go_enter Try.func9, Try.ntmps9
    go_wp2
    go_ret
    exact ⟨by unfold numCmp; rw [if_neg (by omega), if_neg (by omega), if_neg (by omega), if_pos c4]; rfl, rfl⟩
  go_enter Try.func9, Try.ntmps9
  go_wp2
  go_ret
  exact ⟨by unfold numCmp; rw [if_neg (by omega), if_neg (by omega), if_neg (by omega), if_neg (by omega)]; rfl, rfl⟩

/-- what the first k bytes say: the first place at which they part -/
def lex (f g : Nat → Int) : Nat → Int
  | 0 => 0
  | k + 1 => if lex f g k = 0 then (if f k < g k then -1 else if g k < f k then 1 else 0) else lex f g k
theorem lex_same (f g : Nat → Int) (k : Nat) (h : ∀ j, j < k → f j = g j) : lex f g k = 0 := by
  induction k with
  | zero => rfl
  | succ k ih => unfold lex; rw [if_pos (ih fun j hj => h j (by omega)), h k (by omega)]; simp
theorem lex_stays (f g : Nat → Int) (k n : Nat) (h : lex f g k ≠ 0) (hn : k ≤ n) : lex f g n = lex f g k := by
  obtain ⟨d, rfl⟩ : ∃ d, n = k + d := ⟨n - k, by omega⟩
  induction d with
  | zero => rfl
  | succ d ih =>
    have := ih (by omega)
    show (if lex f g (k + d) = 0 then _ else lex f g (k + d)) = _
    rw [this, if_neg h]
theorem lex_lt (f g : Nat → Int) (k n : Nat) (h : ∀ j, j < k → f j = g j) (hk : k < n) (hlt : f k < g k) : lex f g n = -1 := by
  have e : lex f g (k + 1) = -1 := by unfold lex; rw [if_pos (lex_same f g k h), if_pos hlt]
  rw [lex_stays f g (k + 1) n (by rw [e]; decide) hk, e]
theorem lex_gt (f g : Nat → Int) (k n : Nat) (h : ∀ j, j < k → f j = g j) (hk : k < n) (hlt : g k < f k) : lex f g n = 1 := by
  have e : lex f g (k + 1) = 1 := by unfold lex; rw [if_pos (lex_same f g k h), if_neg (by omega), if_pos hlt]
  rw [lex_stays f g (k + 1) n (by rw [e]; decide) hk, e]

theorem drew2 (w : World) (a b : Nat) : (w.drewN a).drewN b = w.drewN (a + b) := by simp
theorem drew3 (w : World) (a b c : Nat) : ((w.drewN a).drewN b).drewN c = w.drewN (a + b + c) := by simp
theorem same_succ (f g : Nat → Int) (k : Nat) (h : ∀ j, j < k → f j = g j) (hk : f k = g k) : Hid (∀ j, j < k + 1 → f j = g j) := by
  intro j hj
  rcases Nat.lt_or_ge j k with h1 | h1
  · exact h j h1
  · obtain rfl : j = k := by omega
    exact hk

/-! ### the plain law: bytes and numbers -/
/-- comparing two numbers byte by byte is comparing them -/
theorem lex_hor (f g : Nat → Int) (hf : ∀ i, 0 ≤ f i ∧ f i ≤ 255) (hg : ∀ i, 0 ≤ g i ∧ g i ≤ 255) (k : Nat) :
    lex f g k = if hor f 0 k < hor g 0 k then -1 else if hor g 0 k < hor f 0 k then 1 else 0 := by
  induction k with
  | zero => rfl
  | succ k ih =>
    have a := hf k
    have b := hg k
    unfold lex
    rw [hor_succ, hor_succ, Nat.zero_add, ih]
    by_cases h1 : hor f 0 k < hor g 0 k
    · rw [if_pos h1, if_neg (by decide), if_pos (by omega)]
    · rw [if_neg h1]
      by_cases h2 : hor g 0 k < hor f 0 k
      · rw [if_pos h2, if_neg (by decide), if_neg (by omega), if_pos (by omega)]
      · rw [if_neg h2, if_pos rfl]
        have e : hor f 0 k = hor g 0 k := by omega
        rw [e]
        simp only [Int.add_lt_add_iff_left]
/-- the same from place 8 on -/
theorem lex_from (f g : Nat → Int) (o k : Nat) (h : ∀ j, j < o → f j = g j) : lex f g (o + k) = lex (fun i => f (o + i)) (fun i => g (o + i)) k := by
  induction k with
  | zero => exact lex_same f g o h
  | succ k ih =>
    show (if lex f g (o + k) = 0 then _ else lex f g (o + k)) = (if lex (fun i => f (o + i)) (fun i => g (o + i)) k = 0 then _ else _)
    rw [ih]
    rfl
theorem hor_from (f : Nat → Int) (o k : Nat) : hor (fun i => f (o + i)) 0 k = hor f o k := by
  induction k with
  | zero => rfl
  | succ k ih => rw [hor_succ, hor_succ, ih, Nat.zero_add]
theorem hor_inj (f g : Nat → Int) (hf : ∀ i, 0 ≤ f i ∧ f i ≤ 255) (hg : ∀ i, 0 ≤ g i ∧ g i ≤ 255) (k : Nat) (h : hor f 0 k = hor g 0 k) : ∀ j, j < k → f j = g j := by
  induction k with
  | zero => intro j hj; omega
  | succ k ih =>
    rw [hor_succ, hor_succ, Nat.zero_add] at h
    have a := hf k
    have b := hg k
    intro j hj
    rcases Nat.lt_or_ge j k with h1 | h1
    · exact ih (by omega) j h1
    · obtain rfl : j = k := by omega
      omega
theorem lex16 (f g : Nat → Int) (hf : ∀ i, 0 ≤ f i ∧ f i ≤ 255) (hg : ∀ i, 0 ≤ g i ∧ g i ≤ 255) :
    lex f g 16 = numCmp (hor f 0 8) (hor f 8 8) (hor g 0 8) (hor g 8 8) := by
  have h8 := lex_hor f g hf hg 8
  unfold numCmp
  by_cases c1 : hor f 0 8 < hor g 0 8
  · rw [if_pos c1] at h8
    rw [if_pos c1, lex_stays f g 8 16 (by rw [h8]; decide) (by omega), h8]
  · rw [if_neg c1] at h8
    rw [if_neg c1]
    by_cases c2 : hor g 0 8 < hor f 0 8
    · rw [if_pos c2] at h8
      rw [if_pos c2, lex_stays f g 8 16 (by rw [h8]; decide) (by omega), h8]
    · rw [if_neg c2]
      have hs := hor_inj f g hf hg 8 (by omega)
      have e := lex_from f g 8 8 hs
      rw [lex_hor (fun i => f (8 + i)) (fun i => g (8 + i)) (fun i => hf _) (fun i => hg _) 8, hor_from, hor_from] at e
      exact e
theorem lex4 (f g : Nat → Int) (hf : ∀ i, 0 ≤ f i ∧ f i ≤ 255) (hg : ∀ i, 0 ≤ g i ∧ g i ≤ 255) :
    lex f g 4 = numCmp 0 (hor f 0 4) 0 (hor g 0 4) := by
  rw [lex_hor f g hf hg 4]; rfl

set_option maxHeartbeats 1000000 in
theorem cmp_any (b1 o1 c1 b2 o2 c2 n : Nat) (f g : Nat → Int) (w : World) (hn : n ≤ 16)
    (hf : ∀ i, i < n → w.cell? ⟨b1, o1 + i, none⟩ = some (.int .u8 (f i))) (hg : ∀ i, i < n → w.cell? ⟨b2, o2 + i, none⟩ = some (.int .u8 (g i))) :
    Calls Try.prog 8 #[.slice (some ⟨b1, o1, none⟩) n c1, .slice (some ⟨b2, o2, none⟩) n c2] w fun e w' => e = .returned (.int .i64 (lex f g n)) ∧ ∃ q, w' = w.drewN q := by
  have HF : Hid (∀ i, i < n → w.cell? ⟨b1, o1 + i, none⟩ = some (.int .u8 (f i))) := hf
  have HG : Hid (∀ i, i < n → w.cell? ⟨b2, o2 + i, none⟩ = some (.int .u8 (g i))) := hg
  clear hf hg
  go_enter Try.func8, Try.ntmps8
  go_wp2
  go_loopw [6] (fun i wr => ∃ k : Nat, k ≤ n ∧ i = .int .i64 k ∧ Hid (∀ j, j < k → f j = g j) ∧ ∃ q, wr = w.drewN q) (fun i _ => n - (intOf i).toNat)
  case atStart => exact ⟨0, by omega, rfl, fun j hj => absurd hj (by omega), 0, rfl⟩
  case round =>
    obtain ⟨k, hk, rfl, hs, q, rfl⟩ := hrel
    by_cases hlt : k < n
    · have g1 := HF.out k hlt
      have g2 := HG.out k hlt
      have hI : (k : Int) < (n : Int) := by omega
      by_cases d1 : f k < g k
      · go_wp2
        go_quiet (fail)
        go_wp2
        go_ret
        exact ⟨by rw [lex_lt f g k n hs.out hlt d1]; rfl, _, drew2 _ _ _⟩
      · by_cases d2 : g k < f k
        · go_wp2
          go_quiet (fail)
          go_wp2
          go_quiet (fail)
          go_wp2
          go_ret
          exact ⟨by rw [lex_gt f g k n hs.out hlt d2]; rfl, _, drew3 _ _ _ _⟩
        · go_wp2
          go_quiet (fail)
          go_wp2
          go_quiet (fail)
          go_wp2
          go_roundw
          case rel => exact ⟨k + 1, by omega, by go_num, same_succ f g k hs.out (by omega), _, rfl⟩
          case measure => simp [intOf]; omega
    · go_wp2
      go_ret
      exact ⟨by rw [lex_same f g n (fun j hj => hs.out j (by omega))]; rfl, q, rfl⟩
end Go.Proofs.Qxb6632291a
