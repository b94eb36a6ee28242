import Derived.Test.Qxb6631269aRows
import Derived.WalkKit
import Derived.ProofKit
import Derived.OpenShut
import Derived.ShutString
import Derived.WalkSpells
namespace Go.Proofs.Qxb6631269a
open Go.RowKit

def inR (lo hi : Int) (c : UInt8) : Bool := decide (lo ≤ (c.toNat : Int)) && decide ((c.toNat : Int) ≤ hi)
def mk (l : List UInt8) (lo hi : Int) : Bool := !l.isEmpty && l.all (inR lo hi)

theorem take_snoc (s : ByteArray) (k : Nat) (h : k < s.size) : s.data.toList.take (k + 1) = s.data.toList.take k ++ [s[k]] := by
  rw [List.take_succ_eq_append_getElem (by simpa using h)]; rfl
theorem ret_bool {a b : Bool} (h : a = b) : Ending.returned (.bool a) = .returned (.bool b) := by rw [h]
theorem mk_empty (s : ByteArray) (lo hi : Int) (h : s.toList.isEmpty = true) : mk s.data.toList lo hi = false := by
  rw [ByteArray.toList_eq] at h; unfold mk; rw [h]; rfl
theorem mk_full (s : ByteArray) (lo hi : Int) (h : s.toList.isEmpty = false) : mk s.data.toList lo hi = s.data.toList.all (inR lo hi) := by
  rw [ByteArray.toList_eq] at h; unfold mk; rw [h]; rfl
theorem all_hit (s : ByteArray) (lo hi : Int) (k : Nat) (h : k < s.size) (hk : inR lo hi s[k] = false) : s.data.toList.all (inR lo hi) = false := by
  rw [List.all_eq_false]
  exact ⟨s[k], Array.getElem_mem_toList _, by simp [hk]⟩
theorem all_snoc (s : ByteArray) (lo hi : Int) (k : Nat) (h : k < s.size) (h0 : (s.data.toList.take k).all (inR lo hi) = true) (hk : inR lo hi s[k] = true) : (s.data.toList.take (k + 1)).all (inR lo hi) = true := by
  rw [take_snoc s k h, List.all_append, h0]; simp [hk]
theorem inR_lo (lo hi : Int) (c : UInt8) (h : (c.toNat : Int) < lo) : inR lo hi c = false := by unfold inR; simp; omega
theorem inR_hi (lo hi : Int) (c : UInt8) (h : hi < (c.toNat : Int)) : inR lo hi c = false := by unfold inR; simp; omega
theorem inR_in (lo hi : Int) (c : UInt8) (h : lo ≤ (c.toNat : Int)) (h' : (c.toNat : Int) ≤ hi) : inR lo hi c = true := by unfold inR; simp; omega

def okTo (s : ByteArray) (lo hi : Int) (k : Nat) : Prop := (s.data.toList.take k).all (inR lo hi) = true
theorem okTo_zero (s : ByteArray) (lo hi : Int) : okTo s lo hi 0 := rfl
theorem okTo_succ (s : ByteArray) (lo hi : Int) (k : Nat) (h : k < s.size) (h0 : okTo s lo hi k) (h1 : lo ≤ (s[k].toNat : Int)) (h2 : (s[k].toNat : Int) ≤ hi) : okTo s lo hi (k + 1) :=
  all_snoc s lo hi k h h0 (inR_in lo hi _ h1 h2)
theorem mk_end (s : ByteArray) (lo hi : Int) (k : Nat) (hk : s.size ≤ k) (he : s.toList.isEmpty = false) (h : okTo s lo hi k) : mk s.data.toList lo hi = true := by
  rw [mk_full s lo hi he]; unfold okTo at h; rwa [List.take_of_length_le (by simpa using hk)] at h
theorem mk_hit (s : ByteArray) (lo hi : Int) (k : Nat) (hk : k < s.size) (he : s.toList.isEmpty = false) (h : (s[k].toNat : Int) < lo ∨ hi < (s[k].toNat : Int)) : mk s.data.toList lo hi = false := by
  rw [mk_full s lo hi he]; exact all_hit s lo hi k hk (by rcases h with h | h; exact inR_lo lo hi _ h; exact inR_hi lo hi _ h)

set_option maxHeartbeats 400000 in
theorem made_any (s : ByteArray) (lo hi : Int) (w : World) (hs : s.size ≤ maxLen) :
    Calls Try.prog 6 #[.string s, .int .u8 lo, .int .u8 hi] w fun e w' => e = .returned (.bool (mk s.data.toList lo hi)) ∧ w' = w := by
  unfold maxLen at hs
  go_enter Try.func6, Try.ntmps6
  go_wp2
  · go_ret
    exact ⟨ret_bool (mk_empty s lo hi ‹_›).symm, rfl⟩
  have he : s.toList.isEmpty = false := by assumption
  go_loop [7] (fun i => ∃ k : Nat, k ≤ s.size ∧ i = .int .i64 k ∧ okTo s lo hi k) (fun i => s.size - (intOf i).toNat)
  case atStart => exact ⟨0, Nat.zero_le _, rfl, okTo_zero s lo hi⟩
  case round =>
    obtain ⟨k, hk, rfl, hall⟩ := hrel
    by_cases hlt : k < s.size
    · by_cases h1 : (s[k].toNat : Int) < lo
      · go_wp2
        go_ret
        exact ⟨ret_bool (mk_hit s lo hi k hlt he (.inl h1)).symm, rfl⟩
      · by_cases h2 : hi < (s[k].toNat : Int)
        · go_wp2
          go_ret
          exact ⟨ret_bool (mk_hit s lo hi k hlt he (.inr h2)).symm, rfl⟩
        · go_wp2
          go_round
          case rel => exact ⟨k + 1, by omega, by go_num, okTo_succ s lo hi k hlt hall (by omega) (by omega)⟩
          case measure => simp [intOf]; omega
    · go_wp2
      go_ret
      exact ⟨ret_bool (mk_end s lo hi k (by omega) he hall).symm, rfl⟩

/-- what MadeOf answers at a string, behind a name that the walk does not lay open -/
def mkS (s : ByteArray) (lo hi : Int) : Bool := mk s.data.toList lo hi
theorem made_s (s : ByteArray) (lo hi : Int) (w : World) (hs : s.size ≤ maxLen) :
    Calls Try.prog 6 #[.string s, .int .u8 lo, .int .u8 hi] w fun e w' => e = .returned (.bool (mkS s lo hi)) ∧ w' = w :=
  made_any s lo hi w hs
end Go.Proofs.Qxb6631269a
