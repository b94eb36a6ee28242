/-
  Plain mathematics (no Go): what the decimal digits of a number come to when they are read again.
-/
import Derived.Lib.ItoaLen
namespace Go.Proofs.Qxb6632257aFmt
open Go.Lib (decDigits)

def valN (l : List UInt8) : Nat := l.foldl (fun a c => a * 10 + (c.toNat - 48)) 0
theorem valN_snoc (l : List UInt8) (c : UInt8) : valN (l ++ [c]) = valN l * 10 + (c.toNat - 48) := by simp [valN]
theorem dig_toNat (d : Nat) (h : d < 10) : (UInt8.ofNat (48 + d)).toNat = 48 + d := by
  rw [UInt8.toNat_ofNat']; omega
theorem valN_le_append (a b : List UInt8) : valN a ≤ valN (a ++ b) := by
  induction b generalizing a with
  | nil => simp
  | cons c b ih =>
    have h := ih (a ++ [c])
    rw [List.append_assoc, List.singleton_append, valN_snoc] at h
    have : valN a ≤ valN a * 10 := by omega
    omega
theorem valN_take_le (l : List UInt8) (k : Nat) : valN (l.take k) ≤ valN l := by
  have h := valN_le_append (l.take k) (l.drop k)
  rwa [List.take_append_drop] at h
theorem valN_take_succ (l : List UInt8) (k : Nat) (h : k < l.length) : valN (l.take (k + 1)) = valN (l.take k) * 10 + (l[k].toNat - 48) := by
  rw [List.take_succ_eq_append_getElem h, valN_snoc]
theorem dd_val (u : Nat) : valN (decDigits u) = u := by
  induction u using Nat.strongRecOn with
  | _ u ih =>
    rw [decDigits]
    split
    · next h => show valN ([] ++ [UInt8.ofNat (48 + u)]) = u; rw [valN_snoc, dig_toNat u h]; simp [valN]
    · next h => rw [valN_snoc, ih (u / 10) (by omega), dig_toNat (u % 10) (by omega)]; omega
theorem dd_digit (u : Nat) : ∀ c ∈ decDigits u, 48 ≤ c.toNat ∧ c.toNat ≤ 57 := by
  induction u using Nat.strongRecOn with
  | _ u ih =>
    rw [decDigits]
    split
    · next h => intro c hc; simp only [List.mem_singleton] at hc; subst hc; rw [dig_toNat u h]; omega
    · next h =>
      intro c hc
      rcases List.mem_append.1 hc with hc | hc
      · exact ih (u / 10) (by omega) c hc
      · simp only [List.mem_singleton] at hc; subst hc; rw [dig_toNat (u % 10) (by omega)]; omega
theorem dd_pos (u : Nat) : 1 ≤ (decDigits u).length := by
  rw [decDigits]; split <;> simp
theorem dd_head (u : Nat) (hu : 1 ≤ u) : ∃ c r, decDigits u = c :: r ∧ c.toNat ≠ 48 := by
  induction u using Nat.strongRecOn with
  | _ u ih =>
    rw [decDigits]
    split
    · next h => exact ⟨_, [], rfl, by rw [dig_toNat u h]; omega⟩
    · next h =>
      obtain ⟨c, r, e, hc⟩ := ih (u / 10) (by omega) (by omega)
      exact ⟨c, r ++ [UInt8.ofNat (48 + u % 10)], by rw [e]; rfl, hc⟩
theorem dd_first (u : Nat) (h : 1 < (decDigits u).length) : ((decDigits u)[0]'(by omega)).toNat ≠ 48 := by
  by_cases hu : 1 ≤ u
  · obtain ⟨c, r, e, hc⟩ := dd_head u hu
    simp [e, hc]
  · obtain rfl : u = 0 := by omega
    rw [Lib.decDigits_one (by omega)] at h
    simp at h
theorem dd_len (u : Nat) (h : u < 18446744073709551616) : (decDigits u).length ≤ 20 := by
  rw [Lib.decDigits_length]; exact Lib.nDigits_le20 u h

/-- the text that shows T tenths -/
def shown (T : Int) : List UInt8 := Lib.itoa (T / 10) ++ [46] ++ Lib.itoa (T % 10)
def shownB (T : Int) : ByteArray := ⟨(shown T).toArray⟩

theorem shown_eq (t : Nat) : shown (t : Int) = decDigits (t / 10) ++ [46, UInt8.ofNat (48 + t % 10)] := by
  unfold shown
  rw [show ((t : Int) / 10) = ((t / 10 : Nat) : Int) by omega, show ((t : Int) % 10) = ((t % 10 : Nat) : Int) by omega, Lib.itoa_nonneg, Lib.itoa_nonneg, Lib.decDigits_one (i := t % 10) (by omega)]
  simp
/-- what the digits up to place j come to -/
def V (t j : Nat) : Nat := if j ≤ (decDigits (t / 10)).length then valN ((decDigits (t / 10)).take j) else if j = (decDigits (t / 10)).length + 1 then t / 10 else t
theorem V_le (t j : Nat) : V t j ≤ t := by
  unfold V
  split
  · have := valN_take_le (decDigits (t / 10)) j
    rw [dd_val] at this; omega
  · split <;> omega
theorem V_zero (t : Nat) : V t 0 = 0 := by simp [V, valN]
theorem V_dot (t : Nat) : V t ((decDigits (t / 10)).length + 1) = V t (decDigits (t / 10)).length := by
  unfold V
  rw [if_neg (by omega), if_pos rfl, if_pos (Nat.le_refl _), List.take_length, dd_val]
theorem V_end (t : Nat) : V t ((decDigits (t / 10)).length + 2) = t := by
  unfold V
  rw [if_neg (by omega), if_neg (by omega)]
theorem shown_at (t i : Nat) (h : i < (shown t).length) (hi : i ≠ (decDigits (t / 10)).length) :
    48 ≤ (shown t)[i].toNat ∧ (shown t)[i].toNat ≤ 57 ∧ V t (i + 1) = V t i * 10 + ((shown t)[i].toNat - 48) := by
  have hl : (shown t).length = (decDigits (t / 10)).length + 2 := by rw [shown_eq]; simp
  have e : (shown t)[i] = (decDigits (t / 10) ++ [46, UInt8.ofNat (48 + t % 10)])[i]'(by simp; omega) := by simp only [shown_eq]
  by_cases hlt : i < (decDigits (t / 10)).length
  · rw [e, List.getElem_append_left hlt]
    have hd := dd_digit (t / 10) _ (List.getElem_mem hlt)
    refine ⟨hd.1, hd.2, ?_⟩
    unfold V
    rw [if_pos (by omega), if_pos (by omega)]
    exact valN_take_succ _ _ hlt
  · obtain rfl : i = (decDigits (t / 10)).length + 1 := by omega
    have e2 : (shown t)[(decDigits (t / 10)).length + 1] = UInt8.ofNat (48 + t % 10) := by rw [e, List.getElem_append_right (by omega)]; simp
    rw [e2, dig_toNat _ (by omega), V_end, V_dot]
    refine ⟨by omega, by omega, ?_⟩
    unfold V
    rw [if_pos (Nat.le_refl _), List.take_length, dd_val]
    omega
theorem shown_dot (t : Nat) (h : (decDigits (t / 10)).length < (shown t).length) : ((shown t)[(decDigits (t / 10)).length]).toNat = 46 := by
  have e : (shown t)[(decDigits (t / 10)).length] = (decDigits (t / 10) ++ [46, UInt8.ofNat (48 + t % 10)])[(decDigits (t / 10)).length]'(by simp) := by simp only [shown_eq]
  rw [e, List.getElem_append_right (by omega)]; simp
theorem shown_first (t : Nat) (h : 0 < (shown t).length) (hm : 1 < (decDigits (t / 10)).length) : ((shown t)[0]).toNat ≠ 48 := by
  have e : (shown t)[0] = (decDigits (t / 10) ++ [46, UInt8.ofNat (48 + t % 10)])[0]'(by simp) := by simp only [shown_eq]
  rw [e, List.getElem_append_left (by omega)]
  exact dd_first _ hm
theorem shown_length (t : Nat) : (shown t).length = (decDigits (t / 10)).length + 2 := by rw [shown_eq]; simp
end Go.Proofs.Qxb6632257aFmt
