/-
  zzRevIDs, zzCopyData, zzPlusID, zzPlusByte over this program.
-/
import Derived.Test.Qxb6631326aOut
import Derived.Deep.OwnRows
import Derived.Lib.SliceRun
namespace Go.Proofs.Qxb6631326a
open Go.RowKit Go.Deep

theorem info5 : (Try.prog.info? 5).map (fun i => (i.zero, i.size, i.bytes)) = some (some (.int .u8 0), 1, 1) := by kernel_rfl

/-- a new row of n numbers of one kind behind w, holding g -/
def Fill (K : IntKind) (w : World) (n : Nat) (g : Nat → Int) (wr : World) : Prop :=
  Below w.heap.size w wr ∧ wr.heap.size = w.heap.size + 1 ∧ (∀ j, j < n → wr.cell? ⟨w.heap.size, j, none⟩ = some (.int K (g j))) ∧ ∀ j, j < n → wr.frozen? ⟨w.heap.size, j, none⟩ = false
theorem Fill.start (K : IntKind) (w : World) (n : Nat) (t : TypeId) : Fill K w n (fun _ => 0) (w.alloc (.cells (madeCells #[.int K 0] n) t)) := by
  refine ⟨(Below.refl _ w).alloc (Nat.le_refl _) _, by simp, fun j hj => ?_, fun j hj => World.frozen?_alloc_at _ _ _ _ rfl⟩
  rw [World.cell?_alloc_at _ _ _ _ rfl]
  simp [madeCells, hj, Nat.mod_one]
theorem Fill.set {K : IntKind} {w wr : World} {n : Nat} {g : Nat → Int} (h : Fill K w n g wr) (j : Nat) (x : Int) (hj : j < n) (g' : Nat → Int) (hg : ∀ i, i < n → g' i = if i = j then x else g i) : Fill K w n g' (wr.setCell ⟨w.heap.size, j, none⟩ (.int K x)) := by
  obtain ⟨hb, hz, hc, hf⟩ := h
  refine ⟨hb.setCell (by simp) _, by simpa [World.setCell] using hz, fun i hi => ?_, fun i hi => by rw [World.frozen?_setCell]; exact hf i hi⟩
  rw [hg i hi]
  by_cases e : i = j
  · subst e
    rw [World.cell?_setCell_same' _ _ _ (by rw [hc i hi]; rfl), if_pos rfl]
  · rw [World.cell?_setCell_other _ _ _ _ (fun h => e (by cases h; rfl)), if_neg e]; exact hc i hi
theorem Fill.congr {K : IntKind} {w wr : World} {n : Nat} {g g' : Nat → Int} (h : Fill K w n g wr) (hg : ∀ i, i < n → g' i = g i) : Fill K w n g' wr :=
  ⟨h.1, h.2.1, fun j hj => by rw [hg j hj]; exact h.2.2.1 j hj, h.2.2.2⟩

/-! ### zzRevIDs -/
set_option maxHeartbeats 1000000 in
theorem rev_loop (b off c n : Nat) (f : Nat → Int) (w : World) (hn : n ≤ 1000000) (hb : b < w.heap.size) (hf : ∀ i, i < n → w.cell? ⟨b, off + i, none⟩ = some (.int .u64 (f i))) :
    Calls Try.prog 6 #[.slice (some ⟨b, off, none⟩) n c] w fun e w' => e = .returned (.slice (some ⟨w.heap.size, 0, none⟩) n n) ∧ Fill .u64 w n (fun j => f (n - 1 - j)) w' := by
  have hmk := fun wx => run_make_row' (P := Try.prog) 22 23 (.int .u64 0) 8 Try.underlying22 info23 rfl .i64 .i64 n (by omega) (by omega) wx
  have hnil := fun wx => Lib.run_eql_slice_nil (P := Try.prog) wx 22 23 (some ⟨b, off, none⟩) n c 0 0 Try.underlying22
  have HF : Hid (∀ i, i < n → w.cell? ⟨b, off + i, none⟩ = some (.int .u64 (f i))) := hf
  clear hf
  go_enter Try.func6, Try.ntmps6
  go_wp2
  go_loopw [4] (fun i wr => ∃ k : Nat, k ≤ n ∧ i = .int .i64 k ∧ Fill .u64 w n (fun j => if n - k ≤ j then f (n - 1 - j) else 0) wr) (fun i _ => n - (intOf i).toNat)
  case atStart => exact ⟨0, by omega, rfl, (Fill.start .u64 w n 23).congr (fun i hi => by rw [if_neg (by omega)])⟩
  case round =>
    obtain ⟨k, hk, rfl, hM⟩ := hrel
    clear hmk hnil
    by_cases hlt : k < n
    · have c1 : wr.cell? ⟨b, off + k, none⟩ = some (.int .u64 (f k)) := by rw [hM.1.cell (p := ⟨b, off + k, none⟩) hb]; exact HF.out k hlt
      have c2 := hM.2.2.1 (n - 1 - k) (by omega)
      have c3 := hM.2.2.2 (n - 1 - k) (by omega)
      have hI : (k : Int) < (n : Int) := by omega
      have HM : Hid (Fill .u64 w n (fun j => if n - k ≤ j then f (n - 1 - j) else 0) wr) := hM
      clear hM
      go_wp2
      go_roundw
      case rel => exact ⟨k + 1, by omega, by go_num, HM.out.set (n - 1 - k) (f k) (by omega) _ (fun i hi => by
          by_cases e : i = n - 1 - k
          · rw [if_pos e, if_pos (by omega), e, show n - 1 - (n - 1 - k) = k by omega]
          · rw [if_neg e]
            by_cases e2 : n - k ≤ i
            · rw [if_pos e2, if_pos (by omega)]
            · rw [if_neg e2, if_neg (by omega)])⟩
      case measure => simp [intOf]; omega
    · go_wp2
      go_ret
      exact ⟨rfl, hM.congr (fun i hi => by rw [if_pos (by omega)])⟩
set_option maxHeartbeats 1000000 in
theorem rev_none (x : Addr) (c : Nat) (w : World) :
    Calls Try.prog 6 #[.slice (some x) 0 c] w fun e w' => e = .returned (.slice (some ⟨w.heap.size, 0, none⟩) 0 0) ∧ Below w.heap.size w w' := by
  have hmk := fun wx => run_make_row' (P := Try.prog) 22 23 (.int .u64 0) 8 Try.underlying22 info23 rfl .i64 .i64 0 (by omega) (by omega) wx
  simp only [Int.natCast_zero] at hmk
  have hnil := fun wx => Lib.run_eql_slice_nil (P := Try.prog) wx 22 23 (some x) 0 c 0 0 Try.underlying22
  go_enter Try.func6, Try.ntmps6
  go_wp2
  refine wp_loop_rounds 1 ?_
  rw [rounds_succ]
  go_wp2
  go_ret
  exact ⟨rfl, (Below.refl _ w).alloc (Nat.le_refl _) _⟩
set_option maxHeartbeats 1000000 in
theorem rev_nil (c : Nat) (w : World) : Calls Try.prog 6 #[.slice none 0 c] w fun e w' => e = .returned (.slice none 0 0) ∧ w' = w := by
  have hnil := fun wx => Lib.run_eql_slice_nil (P := Try.prog) wx 22 23 none 0 c 0 0 Try.underlying22
  go_enter Try.func6, Try.ntmps6
  go_wp2
  go_ret
  exact ⟨rfl, rfl⟩
theorem rev_any (a : Option Addr) (l c : Nat) (zs : List Int) (w : World) (h : Ints w.heap.size w (.slice a l c) zs) (hn : zs.length ≤ 1000000) :
    Calls Try.prog 6 #[.slice a l c] w fun e w' => ∃ a' l' c', e = .returned (.slice a' l' c') ∧ Ints w'.heap.size w' (.slice a' l' c') zs.reverse ∧ Below w.heap.size w w' := by
  rcases h with ⟨a', cap, e, rfl⟩ | ⟨b, off, cap, e, hb, hc⟩
  · cases e
    cases a with
    | none => exact (rev_nil c w).mono fun e w' ⟨he, hw⟩ => ⟨_, _, _, he, .inl ⟨_, _, rfl, rfl⟩, by rw [hw]; exact Below.refl _ _⟩
    | some x => exact (rev_none x c w).mono fun e w' ⟨he, hw⟩ => ⟨_, _, _, he, .inl ⟨_, _, rfl, rfl⟩, hw⟩
  · cases e
    refine (rev_loop b off c zs.length (fun j => zs[j]?.getD 0) w hn hb hc).mono fun e w' ⟨he, hM⟩ => ⟨_, _, _, he, .inr ⟨w.heap.size, 0, zs.length, by simp, by rw [hM.2.1]; omega, fun j hj => ?_⟩, hM.1⟩
    have hj' : j < zs.length := by simpa using hj
    rw [Nat.zero_add, hM.2.2.1 j hj', List.getElem?_reverse hj']

/-! ### zzCopyData -/
set_option maxHeartbeats 1000000 in
theorem cpy_loop (b off c n : Nat) (f : Nat → Int) (w : World) (hn : n ≤ 1000000) (hb : b < w.heap.size) (hf : ∀ i, i < n → w.cell? ⟨b, off + i, none⟩ = some (.int .u8 (f i))) :
    Calls Try.prog 7 #[.slice (some ⟨b, off, none⟩) n c] w fun e w' => e = .returned (.slice (some ⟨w.heap.size, 0, none⟩) n n) ∧ Fill .u8 w n f w' := by
  have hmk := fun wx => run_make_row' (P := Try.prog) 24 5 (.int .u8 0) 1 Try.underlying24 info5 rfl .i64 .i64 n (by omega) (by omega) wx
  have hnil := fun wx => Lib.run_eql_slice_nil (P := Try.prog) wx 24 5 (some ⟨b, off, none⟩) n c 0 0 Try.underlying24
  have HF : Hid (∀ i, i < n → w.cell? ⟨b, off + i, none⟩ = some (.int .u8 (f i))) := hf
  clear hf
  go_enter Try.func7, Try.ntmps7
  go_wp2
  go_loopw [4] (fun i wr => ∃ k : Nat, k ≤ n ∧ i = .int .i64 k ∧ Fill .u8 w n (fun j => if j < k then f j else 0) wr) (fun i _ => n - (intOf i).toNat)
  case atStart => exact ⟨0, by omega, rfl, (Fill.start .u8 w n 5).congr (fun i hi => by rw [if_neg (by omega)])⟩
  case round =>
    obtain ⟨k, hk, rfl, hM⟩ := hrel
    clear hmk hnil
    by_cases hlt : k < n
    · have c1 : wr.cell? ⟨b, off + k, none⟩ = some (.int .u8 (f k)) := by rw [hM.1.cell (p := ⟨b, off + k, none⟩) hb]; exact HF.out k hlt
      have c2 := hM.2.2.1 k (by omega)
      have c3 := hM.2.2.2 k (by omega)
      have hI : (k : Int) < (n : Int) := by omega
      have HM : Hid (Fill .u8 w n (fun j => if j < k then f j else 0) wr) := hM
      clear hM
      go_wp2
      go_roundw
      case rel => exact ⟨k + 1, by omega, by go_num, HM.out.set k (f k) (by omega) _ (fun i hi => by
          by_cases e : i = k
          · rw [if_pos e, if_pos (by omega), e]
          · rw [if_neg e]
            by_cases e2 : i < k
            · rw [if_pos e2, if_pos (by omega)]
            · rw [if_neg e2, if_neg (by omega)])⟩
      case measure => simp [intOf]; omega
    · go_wp2
      go_ret
      exact ⟨rfl, hM.congr (fun i hi => by rw [if_pos (by omega)])⟩
set_option maxHeartbeats 1000000 in
theorem cpy_none (x : Addr) (c : Nat) (w : World) :
    Calls Try.prog 7 #[.slice (some x) 0 c] w fun e w' => e = .returned (.slice (some ⟨w.heap.size, 0, none⟩) 0 0) ∧ Below w.heap.size w w' := by
  have hmk := fun wx => run_make_row' (P := Try.prog) 24 5 (.int .u8 0) 1 Try.underlying24 info5 rfl .i64 .i64 0 (by omega) (by omega) wx
  simp only [Int.natCast_zero] at hmk
  have hnil := fun wx => Lib.run_eql_slice_nil (P := Try.prog) wx 24 5 (some x) 0 c 0 0 Try.underlying24
  go_enter Try.func7, Try.ntmps7
  go_wp2
  refine wp_loop_rounds 1 ?_
  rw [rounds_succ]
  go_wp2
  go_ret
  exact ⟨rfl, (Below.refl _ w).alloc (Nat.le_refl _) _⟩
set_option maxHeartbeats 1000000 in
theorem cpy_nil (c : Nat) (w : World) : Calls Try.prog 7 #[.slice none 0 c] w fun e w' => e = .returned (.slice none 0 0) ∧ w' = w := by
  have hnil := fun wx => Lib.run_eql_slice_nil (P := Try.prog) wx 24 5 none 0 c 0 0 Try.underlying24
  go_enter Try.func7, Try.ntmps7
  go_wp2
  go_ret
  exact ⟨rfl, rfl⟩
theorem cpy_any (a : Option Addr) (l c : Nat) (xs : List Int) (w : World) (h : Byts w.heap.size w (.slice a l c) xs) (hn : xs.length ≤ 1000000) :
    Calls Try.prog 7 #[.slice a l c] w fun e w' => ∃ a' l' c', e = .returned (.slice a' l' c') ∧ Byts w'.heap.size w' (.slice a' l' c') xs ∧ Below w.heap.size w w' := by
  obtain ⟨hw, h⟩ := h
  rcases h with ⟨a', cap, e, rfl⟩ | ⟨b, off, cap, e, hb, hc⟩
  · cases e
    cases a with
    | none => exact (cpy_nil c w).mono fun e w' ⟨he, hw'⟩ => ⟨_, _, _, he, ⟨hw, .inl ⟨_, _, rfl, rfl⟩⟩, by rw [hw']; exact Below.refl _ _⟩
    | some x => exact (cpy_none x c w).mono fun e w' ⟨he, hw'⟩ => ⟨_, _, _, he, ⟨hw, .inl ⟨_, _, rfl, rfl⟩⟩, hw'⟩
  · cases e
    refine (cpy_loop b off c xs.length (fun j => xs[j]?.getD 0) w hn hb hc).mono fun e w' ⟨he, hM⟩ => ⟨_, _, _, he, ⟨hw, .inr ⟨w.heap.size, 0, xs.length, rfl, by rw [hM.2.1]; omega, fun j hj => ?_⟩⟩, hM.1⟩
    rw [Nat.zero_add, hM.2.2.1 j hj]
end Go.Proofs.Qxb6631326a
