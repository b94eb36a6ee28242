/-
  zzPlusID and zzPlusByte over this program.
-/
import Derived.Test.Qxb6631326aLaw
namespace Go.Proofs.Qxb6631326a
open Go.RowKit Go.Deep

set_option maxHeartbeats 1000000 in
theorem pid_loop (b off c n : Nat) (f : Nat → Int) (x : Int) (w : World) (hn : n ≤ 1000000) (hb : b < w.heap.size) (hf : ∀ i, i < n → w.cell? ⟨b, off + i, none⟩ = some (.int .u64 (f i))) :
    Calls Try.prog 10 #[.slice (some ⟨b, off, none⟩) n c, .int .u64 x] w fun e w' => e = .returned (.slice (some ⟨w.heap.size, 0, none⟩) (n + 1) (n + 1)) ∧ Fill .u64 w (n + 1) (fun j => if j < n then f j else x) w' := by
  have hmk := fun wx => run_make_row' (P := Try.prog) 22 23 (.int .u64 0) 8 Try.underlying22 info23 rfl .i64 .i64 (n + 1) (by omega) (by omega) wx
  simp only [Int.natCast_add, Int.natCast_one] at hmk
  have HF : Hid (∀ i, i < n → w.cell? ⟨b, off + i, none⟩ = some (.int .u64 (f i))) := hf
  clear hf
  go_enter Try.func10, Try.ntmps10
  go_wp2
  go_loopw [6] (fun i wr => ∃ k : Nat, k ≤ n ∧ i = .int .i64 k ∧ Fill .u64 w (n + 1) (fun j => if j < k then f j else 0) wr) (fun i _ => n - (intOf i).toNat)
  case atStart => exact ⟨0, by omega, rfl, (Fill.start .u64 w (n + 1) 23).congr (fun i hi => by rw [if_neg (by omega)])⟩
  case round =>
    obtain ⟨k, hk, rfl, hM⟩ := hrel
    clear hmk
    have HM : Hid (Fill .u64 w (n + 1) (fun j => if j < k then f j else 0) wr) := hM
    by_cases hlt : k < n
    · have c1 : wr.cell? ⟨b, off + k, none⟩ = some (.int .u64 (f k)) := by rw [hM.1.cell (p := ⟨b, off + k, none⟩) hb]; exact HF.out k hlt
      have c2 := hM.2.2.1 k (by omega)
      have c3 := hM.2.2.2 k (by omega)
      have hI : (k : Int) < (n : Int) := by omega
      clear hM
      go_wp2
      go_roundw
      case rel => exact ⟨k + 1, by omega, by go_num, HM.out.set k (f k) (by omega) _ (fun i hi => by
          by_cases e : i = k
          · rw [if_pos e, if_pos (by omega), e]
          · rw [if_neg e]
            by_cases e2 : i < k
            · rw [if_pos e2, if_pos (by omega)]
            · rw [if_neg e2, if_neg (by omega)])⟩
      case measure => simp [intOf]; omega
    · have c2 := hM.2.2.1 n (by omega)
      have c3 := hM.2.2.2 n (by omega)
      clear hM
      go_wp2
      go_ret
      exact ⟨rfl, HM.out.set n x (by omega) _ (fun i hi => by
          by_cases e : i = n
          · rw [if_pos e, if_neg (by omega)]
          · rw [if_neg e, if_pos (by omega), if_pos (by omega)])⟩
set_option maxHeartbeats 1000000 in
theorem pid_none (a : Option Addr) (c : Nat) (x : Int) (w : World) :
    Calls Try.prog 10 #[.slice a 0 c, .int .u64 x] w fun e w' => e = .returned (.slice (some ⟨w.heap.size, 0, none⟩) 1 1) ∧ Fill .u64 w 1 (fun _ => x) w' := by
  have hmk := fun wx => run_make_row' (P := Try.prog) 22 23 (.int .u64 0) 8 Try.underlying22 info23 rfl .i64 .i64 1 (by omega) (by omega) wx
  simp only [Int.natCast_one] at hmk
  have hM := Fill.start .u64 w 1 23
  have HM : Hid (Fill .u64 w 1 (fun _ => 0) (w.alloc (.cells (madeCells #[.int .u64 0] 1) 23))) := hM
  have c2 := hM.2.2.1 0 (by omega)
  have c3 := hM.2.2.2 0 (by omega)
  clear hM
  obtain ⟨W, hW⟩ : ∃ W, w.alloc (.cells (madeCells #[.int .u64 0] 1) 23) = W := ⟨_, rfl⟩
  rw [hW] at c2 c3 HM
  have hmk2 : ∀ wx, wx = w → (Instr.makeSlice 22 (.int .i64 1) (.int .i64 1)).run Try.prog wx = .ok (.slice (some ⟨w.heap.size, 0, none⟩) 1 1) W := fun wx e => by rw [e, hmk w, hW]
  have hmk3 := hmk2 w rfl
  clear hmk hmk2 hW
  go_enter Try.func10, Try.ntmps10
  go_wp2
  refine wp_loop_rounds 1 ?_
  rw [rounds_succ]
  go_wp2
  go_ret
  exact ⟨rfl, HM.out.set 0 x (by omega) _ (fun i hi => by rw [if_pos (by omega)])⟩
theorem pid_any (a : Option Addr) (l c : Nat) (zs : List Int) (x : Int) (w : World) (h : Ints w.heap.size w (.slice a l c) zs) (hn : zs.length ≤ 1000000) :
    Calls Try.prog 10 #[.slice a l c, .int .u64 x] w fun e w' => ∃ a' l' c', e = .returned (.slice a' l' c') ∧ Ints w'.heap.size w' (.slice a' l' c') (zs ++ [x]) ∧ Below w.heap.size w w' := by
  rcases h with ⟨a', cap, e, rfl⟩ | ⟨b, off, cap, e, hb, hc⟩
  · cases e
    refine (pid_none a c x w).mono fun e w' ⟨he, hM⟩ => ⟨_, _, _, he, .inr ⟨w.heap.size, 0, 1, rfl, by rw [hM.2.1]; omega, fun j hj => ?_⟩, hM.1⟩
    have h1 : j = 0 := by simp at hj; omega
    subst h1
    rw [Nat.zero_add, hM.2.2.1 0 (by omega)]; rfl
  · cases e
    refine (pid_loop b off c zs.length (fun j => zs[j]?.getD 0) x w hn hb hc).mono fun e w' ⟨he, hM⟩ => ⟨_, _, _, he, .inr ⟨w.heap.size, 0, zs.length + 1, by simp, by rw [hM.2.1]; omega, fun j hj => ?_⟩, hM.1⟩
    have hj' : j < zs.length + 1 := by simpa using hj
    rw [Nat.zero_add, hM.2.2.1 j hj']
    dsimp only
    by_cases h : j < zs.length
    · rw [if_pos h, List.getElem?_append_left h]
    · obtain rfl : j = zs.length := by omega
      rw [if_neg h]; simp
set_option maxHeartbeats 1000000 in
theorem pby_loop (b off c n : Nat) (f : Nat → Int) (x : Int) (w : World) (hn : n ≤ 1000000) (hb : b < w.heap.size) (hf : ∀ i, i < n → w.cell? ⟨b, off + i, none⟩ = some (.int .u8 (f i))) :
    Calls Try.prog 11 #[.slice (some ⟨b, off, none⟩) n c, .int .u8 x] w fun e w' => e = .returned (.slice (some ⟨w.heap.size, 0, none⟩) (n + 1) (n + 1)) ∧ Fill .u8 w (n + 1) (fun j => if j < n then f j else x) w' := by
  have hmk := fun wx => run_make_row' (P := Try.prog) 24 5 (.int .u8 0) 1 Try.underlying24 info5 rfl .i64 .i64 (n + 1) (by omega) (by omega) wx
  simp only [Int.natCast_add, Int.natCast_one] at hmk
  have HF : Hid (∀ i, i < n → w.cell? ⟨b, off + i, none⟩ = some (.int .u8 (f i))) := hf
  clear hf
  go_enter Try.func11, Try.ntmps11
  go_wp2
  go_loopw [6] (fun i wr => ∃ k : Nat, k ≤ n ∧ i = .int .i64 k ∧ Fill .u8 w (n + 1) (fun j => if j < k then f j else 0) wr) (fun i _ => n - (intOf i).toNat)
  case atStart => exact ⟨0, by omega, rfl, (Fill.start .u8 w (n + 1) 5).congr (fun i hi => by rw [if_neg (by omega)])⟩
  case round =>
    obtain ⟨k, hk, rfl, hM⟩ := hrel
    clear hmk
    have HM : Hid (Fill .u8 w (n + 1) (fun j => if j < k then f j else 0) wr) := hM
    by_cases hlt : k < n
    · have c1 : wr.cell? ⟨b, off + k, none⟩ = some (.int .u8 (f k)) := by rw [hM.1.cell (p := ⟨b, off + k, none⟩) hb]; exact HF.out k hlt
      have c2 := hM.2.2.1 k (by omega)
      have c3 := hM.2.2.2 k (by omega)
      have hI : (k : Int) < (n : Int) := by omega
      clear hM
      go_wp2
      go_roundw
      case rel => exact ⟨k + 1, by omega, by go_num, HM.out.set k (f k) (by omega) _ (fun i hi => by
          by_cases e : i = k
          · rw [if_pos e, if_pos (by omega), e]
          · rw [if_neg e]
            by_cases e2 : i < k
            · rw [if_pos e2, if_pos (by omega)]
            · rw [if_neg e2, if_neg (by omega)])⟩
      case measure => simp [intOf]; omega
    · have c2 := hM.2.2.1 n (by omega)
      have c3 := hM.2.2.2 n (by omega)
      clear hM
      go_wp2
      go_ret
      exact ⟨rfl, HM.out.set n x (by omega) _ (fun i hi => by
          by_cases e : i = n
          · rw [if_pos e, if_neg (by omega)]
          · rw [if_neg e, if_pos (by omega), if_pos (by omega)])⟩
set_option maxHeartbeats 1000000 in
theorem pby_none (a : Option Addr) (c : Nat) (x : Int) (w : World) :
    Calls Try.prog 11 #[.slice a 0 c, .int .u8 x] w fun e w' => e = .returned (.slice (some ⟨w.heap.size, 0, none⟩) 1 1) ∧ Fill .u8 w 1 (fun _ => x) w' := by
  have hmk := fun wx => run_make_row' (P := Try.prog) 24 5 (.int .u8 0) 1 Try.underlying24 info5 rfl .i64 .i64 1 (by omega) (by omega) wx
  simp only [Int.natCast_one] at hmk
  have hM := Fill.start .u8 w 1 5
  have HM : Hid (Fill .u8 w 1 (fun _ => 0) (w.alloc (.cells (madeCells #[.int .u8 0] 1) 5))) := hM
  have c2 := hM.2.2.1 0 (by omega)
  have c3 := hM.2.2.2 0 (by omega)
  clear hM
  obtain ⟨W, hW⟩ : ∃ W, w.alloc (.cells (madeCells #[.int .u8 0] 1) 5) = W := ⟨_, rfl⟩
  rw [hW] at c2 c3 HM
  have hmk2 : ∀ wx, wx = w → (Instr.makeSlice 24 (.int .i64 1) (.int .i64 1)).run Try.prog wx = .ok (.slice (some ⟨w.heap.size, 0, none⟩) 1 1) W := fun wx e => by rw [e, hmk w, hW]
  have hmk3 := hmk2 w rfl
  clear hmk hmk2 hW
  go_enter Try.func11, Try.ntmps11
  go_wp2
  refine wp_loop_rounds 1 ?_
  rw [rounds_succ]
  go_wp2
  go_ret
  exact ⟨rfl, HM.out.set 0 x (by omega) _ (fun i hi => by rw [if_pos (by omega)])⟩
theorem pby_any (a : Option Addr) (l c : Nat) (xs : List Int) (x : Int) (w : World) (h : Byts w.heap.size w (.slice a l c) xs) (hn : xs.length ≤ 1000000) (hx : 0 ≤ x ∧ x ≤ 255) :
    Calls Try.prog 11 #[.slice a l c, .int .u8 x] w fun e w' => ∃ a' l' c', e = .returned (.slice a' l' c') ∧ Byts w'.heap.size w' (.slice a' l' c') (xs ++ [x]) ∧ Below w.heap.size w w' := by
  obtain ⟨hw, h⟩ := h
  have hw' : ∀ y ∈ xs ++ [x], 0 ≤ y ∧ y ≤ 255 := fun y hy => by
    rcases List.mem_append.1 hy with hy | hy
    · exact hw y hy
    · simp only [List.mem_singleton] at hy; subst hy; exact hx
  rcases h with ⟨a', cap, e, rfl⟩ | ⟨b, off, cap, e, hb, hc⟩
  · cases e
    refine (pby_none a c x w).mono fun e w' ⟨he, hM⟩ => ⟨_, _, _, he, ⟨hw', .inr ⟨w.heap.size, 0, 1, rfl, by rw [hM.2.1]; omega, fun j hj => ?_⟩⟩, hM.1⟩
    have h1 : j = 0 := by simp at hj; omega
    subst h1
    rw [Nat.zero_add, hM.2.2.1 0 (by omega)]; rfl
  · cases e
    refine (pby_loop b off c xs.length (fun j => xs[j]?.getD 0) x w hn hb hc).mono fun e w' ⟨he, hM⟩ => ⟨_, _, _, he, ⟨hw', .inr ⟨w.heap.size, 0, xs.length + 1, by simp, by rw [hM.2.1]; omega, fun j hj => ?_⟩⟩, hM.1⟩
    have hj' : j < xs.length + 1 := by simpa using hj
    rw [Nat.zero_add, hM.2.2.1 j hj']
    dsimp only
    by_cases h : j < xs.length
    · rw [if_pos h, List.getElem?_append_left h]
    · obtain rfl : j = xs.length := by omega
      rw [if_neg h]; simp
end Go.Proofs.Qxb6631326a
