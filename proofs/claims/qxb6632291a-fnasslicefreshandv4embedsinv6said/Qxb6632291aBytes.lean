/-
  The plain law: the bytes that AsSlice lays, read as numbers, are the address's own numbers.
-/
import Derived.Test.Qxb6632291aNum
import Derived.Test.Qxb6632291aAddr
namespace Go.Proofs.Qxb6632291a
open Go.RowKit

theorem byteAt_bd (x : Int) (i : Nat) : 0 ≤ byteAt x i ∧ byteAt x i ≤ 255 := by unfold byteAt; omega
theorem cellAt_bd (hi lo : Int) (k j : Nat) : 0 ≤ cellAt hi lo k j ∧ cellAt hi lo k j ≤ 255 := by
  unfold cellAt
  have a := byteAt_bd hi j
  have b := byteAt_bd lo (j - 8)
  split <;> split <;> omega
theorem cell_hi (hi lo : Int) (j : Nat) (h : j < 8) : cellAt hi lo 8 j = byteAt hi j := by
  unfold cellAt; rw [if_pos h, if_pos h]
theorem cell_lo (hi lo : Int) (j : Nat) (h : j < 8) : cellAt hi lo 8 (8 + j) = byteAt lo j := by
  unfold cellAt; rw [if_neg (by omega), if_pos (by omega), show 8 + j - 8 = j by omega]
theorem hor_congr (f g : Nat → Int) (o k : Nat) (h : ∀ j, j < k → f (o + j) = g (o + j)) : hor f o k = hor g o k := by
  induction k with
  | zero => rfl
  | succ k ih => rw [hor_succ, hor_succ, ih fun j hj => h j (by omega), h k (by omega)]
theorem hor_bytes (x : Int) (h0 : 0 ≤ x) (h1 : x ≤ 18446744073709551615) : hor (byteAt x) 0 8 = x := by
  have b0 : byteAt x 0 = x / 72057594037927936 % 256 := rfl
  have b1 : byteAt x 1 = x / 281474976710656 % 256 := rfl
  have b2 : byteAt x 2 = x / 1099511627776 % 256 := rfl
  have b3 : byteAt x 3 = x / 4294967296 % 256 := rfl
  have b4 : byteAt x 4 = x / 16777216 % 256 := rfl
  have b5 : byteAt x 5 = x / 65536 % 256 := rfl
  have b6 : byteAt x 6 = x / 256 % 256 := rfl
  have b7 : byteAt x 7 = x / 1 % 256 := rfl
  have e1 : hor (byteAt x) 0 1 = x / 72057594037927936 := by rw [hor_succ]; show 0 * 256 + byteAt x 0 = _; rw [b0]; omega
  have e2 : hor (byteAt x) 0 2 = x / 281474976710656 := by rw [hor_succ, e1]; show _ + byteAt x 1 = _; rw [b1]; omega
  have e3 : hor (byteAt x) 0 3 = x / 1099511627776 := by rw [hor_succ, e2]; show _ + byteAt x 2 = _; rw [b2]; omega
  have e4 : hor (byteAt x) 0 4 = x / 4294967296 := by rw [hor_succ, e3]; show _ + byteAt x 3 = _; rw [b3]; omega
  have e5 : hor (byteAt x) 0 5 = x / 16777216 := by rw [hor_succ, e4]; show _ + byteAt x 4 = _; rw [b4]; omega
  have e6 : hor (byteAt x) 0 6 = x / 65536 := by rw [hor_succ, e5]; show _ + byteAt x 5 = _; rw [b5]; omega
  have e7 : hor (byteAt x) 0 7 = x / 256 := by rw [hor_succ, e6]; show _ + byteAt x 6 = _; rw [b6]; omega
  rw [hor_succ, e7]; show _ + byteAt x 7 = _; rw [b7]; omega
theorem hor_last (x : Int) (h0 : 0 ≤ x) (h1 : x ≤ 4294967295) : hor (fun i => byteAt x (4 + i)) 0 4 = x := by
  have b4 : byteAt x (4 + 0) = x / 16777216 % 256 := rfl
  have b5 : byteAt x (4 + 1) = x / 65536 % 256 := rfl
  have b6 : byteAt x (4 + 2) = x / 256 % 256 := rfl
  have b7 : byteAt x (4 + 3) = x / 1 % 256 := rfl
  show (((0 * 256 + byteAt x (4 + 0)) * 256 + byteAt x (4 + 1)) * 256 + byteAt x (4 + 2)) * 256 + byteAt x (4 + 3) = x
  rw [b4, b5, b6, b7]; omega
theorem hi_of (hi lo : Int) (h0 : 0 ≤ hi) (h1 : hi ≤ 18446744073709551615) : hor (cellAt hi lo 8) 0 8 = hi := by
  rw [hor_congr (cellAt hi lo 8) (byteAt hi) 0 8 (fun j hj => by rw [Nat.zero_add]; exact cell_hi hi lo j hj)]
  exact hor_bytes hi h0 h1
theorem lo_of (hi lo : Int) (h0 : 0 ≤ lo) (h1 : lo ≤ 18446744073709551615) : hor (cellAt hi lo 8) 8 8 = lo := by
  rw [← hor_from, hor_congr (fun i => cellAt hi lo 8 (8 + i)) (byteAt lo) 0 8 (fun j hj => by rw [Nat.zero_add]; exact cell_lo hi lo j hj)]
  exact hor_bytes lo h0 h1
theorem low_of (hi lo : Int) (h0 : 0 ≤ lo) (h1 : lo ≤ 4294967295) : hor (fun i => cellAt hi lo 8 (12 + i)) 0 4 = lo := by
  rw [hor_congr (fun i => cellAt hi lo 8 (12 + i)) (fun i => byteAt lo (4 + i)) 0 4 (fun j hj => by rw [Nat.zero_add]; exact (by rw [show 12 + j = 8 + (4 + j) by omega]; exact cell_lo hi lo (4 + j) (by omega)))]
  exact hor_last lo h0 h1
theorem bd64 {x : Int} (h : (Lit.int .u64 x).wf = true) : 0 ≤ x ∧ x ≤ 18446744073709551615 := by
  simp only [Lit.wf, Bool.and_eq_true, decide_eq_true_eq] at h
  exact ⟨h.1, h.2⟩
theorem bd8 {x : Int} (h : (Lit.int .u8 x).wf = true) : 0 ≤ x ∧ x ≤ 255 := by
  simp only [Lit.wf, Bool.and_eq_true, decide_eq_true_eq] at h
  exact ⟨h.1, h.2⟩

/-- AsSlice's cells, in the world behind the call and in every later one -/
theorem Mid.cell {w wr : World} {hi lo fam : Int} (h : Mid w hi lo fam 8 wr) (j : Nat) (hj : j < 16) : wr.cell? ⟨w.heap.size + 1, j, none⟩ = some (.int .u8 (cellAt hi lo 8 j)) := h.2.2.2.1 j hj
theorem Mid.below {w wr : World} {hi lo fam : Int} {k : Nat} (h : Mid w hi lo fam k wr) : Below w.heap.size w wr := h.2.2.2.2.2.1
theorem Mid.grown {w wr : World} {hi lo fam : Int} {k : Nat} (h : Mid w hi lo fam k wr) : Grown w wr := h.2.2.2.2.2.2.1
theorem Mid.size {w wr : World} {hi lo fam : Int} {k : Nat} (h : Mid w hi lo fam k wr) : wr.heap.size = w.heap.size + 2 := h.2.2.2.2.2.2.2
theorem Mid.thaw {w wr : World} {hi lo fam : Int} {k : Nat} (h : Mid w hi lo fam k wr) (j : Nat) (hj : j < 16) : wr.frozen? ⟨w.heap.size + 1, j, none⟩ = false := h.2.2.2.2.1 j hj
theorem grown_trans {a b c : World} (h1 : Grown a b) (h2 : Grown b c) : Grown a c :=
  ⟨World.keptBut_trans h1.1 h2.1, fun x => (h2.2.1 x).trans (h1.2.1 x), Nat.le_trans h1.2.2 h2.2.2⟩
theorem be16' (b off cap : Nat) (f : Nat → Int) (hi lo : Int) (w : World) (hf : ∀ i, 0 ≤ f i ∧ f i ≤ 255) (hc : ∀ i, i < 16 → w.cell? ⟨b, off + i, none⟩ = some (.int .u8 (f i))) (e1 : hor f 0 8 = hi) (e2 : hor f 8 8 = lo) :
    Calls Try.prog 7 #[.slice (some ⟨b, off, none⟩) 16 cap] w fun e w' => e = .returned (.tuple #[.int .u64 hi, .int .u64 lo, .bool true]) ∧ w' = w := by
  have h := be16 b off cap f w hf hc
  rw [e1, e2] at h
  exact h
theorem be4' (b off cap : Nat) (f : Nat → Int) (lo : Int) (w : World) (hf : ∀ i, 0 ≤ f i ∧ f i ≤ 255) (hc : ∀ i, i < 4 → w.cell? ⟨b, off + i, none⟩ = some (.int .u8 (f i))) (e1 : hor f 0 4 = lo) :
    Calls Try.prog 7 #[.slice (some ⟨b, off, none⟩) 4 cap] w fun e w' => e = .returned (.tuple #[.int .u64 0, .int .u64 lo, .bool true]) ∧ w' = w := by
  have h := be4 b off cap f w hf hc
  rw [e1] at h
  exact h
theorem cmp' (b1 o1 c1 b2 o2 c2 n : Nat) (f g : Nat → Int) (c : Int) (w : World) (hn : n ≤ 16)
    (hf : ∀ i, i < n → w.cell? ⟨b1, o1 + i, none⟩ = some (.int .u8 (f i))) (hg : ∀ i, i < n → w.cell? ⟨b2, o2 + i, none⟩ = some (.int .u8 (g i))) (e1 : lex f g n = c) :
    Calls Try.prog 8 #[.slice (some ⟨b1, o1, none⟩) n c1, .slice (some ⟨b2, o2, none⟩) n c2] w fun e w' => e = .returned (.int .i64 c) ∧ ∃ q, w' = w.drewN q := by
  have h := cmp_any b1 o1 c1 b2 o2 c2 n f g w hn hf hg
  rw [e1] at h
  exact h
theorem grown_drewN (w : World) (q : Nat) : Grown w (w.drewN q) := Grown.refl w
end Go.Proofs.Qxb6632291a
