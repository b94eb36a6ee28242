/-
  bytes.Equal and Membership.sameAs over this program.
-/
import Derived.Test.Qxb6631326aSame
namespace Go.Proofs.Qxb6631326a
open Go.RowKit

/-- the slice value sv holds the bytes xs, in a block below n₀; or it has no element -/
def Byts (n₀ : Nat) (W : World) (sv : Value) (xs : List Int) : Prop :=
  (∀ x ∈ xs, 0 ≤ x ∧ x ≤ 255) ∧ ((∃ a cap, sv = .slice a 0 cap ∧ xs = []) ∨ ∃ b off cap, sv = .slice (some ⟨b, off, none⟩) xs.length cap ∧ b < n₀ ∧ ∀ j, j < xs.length → W.cell? ⟨b, off + j, none⟩ = some (.int .u8 (xs[j]?.getD 0)))
theorem Byts.below {n₀ : Nat} {A B : World} (h : Below n₀ A B) {sv : Value} {xs : List Int} : Byts n₀ A sv xs → Byts n₀ B sv xs
  | ⟨w, .inl e⟩ => ⟨w, .inl e⟩
  | ⟨w, .inr ⟨b, off, cap, e, hb, hc⟩⟩ => ⟨w, .inr ⟨b, off, cap, e, hb, fun j hj => (h.cell (p := ⟨b, off + j, none⟩) hb).trans (hc j hj)⟩⟩
theorem Byts.mono {n₀ n₁ : Nat} {A : World} (h : n₀ ≤ n₁) {sv : Value} {xs : List Int} : Byts n₀ A sv xs → Byts n₁ A sv xs
  | ⟨w, .inl e⟩ => ⟨w, .inl e⟩
  | ⟨w, .inr ⟨b, off, cap, e, hb, hc⟩⟩ => ⟨w, .inr ⟨b, off, cap, e, Nat.lt_of_lt_of_le hb h, hc⟩⟩
theorem Byts.shape {n₀ : Nat} {W : World} {sv : Value} {xs : List Int} (h : Byts n₀ W sv xs) : ∃ a cap, sv = .slice a xs.length cap := by
  rcases h.2 with ⟨a, cap, rfl, rfl⟩ | ⟨b, off, cap, rfl, _, _⟩
  · exact ⟨a, cap, rfl⟩
  · exact ⟨_, cap, rfl⟩

theorem conv {n₀ : Nat} {w : World} {sv : Value} {xs : List Int} (h : Byts n₀ w sv xs) : (convert 24 9 sv).run Try.prog w = .ok (.string (strOfNums xs)) w := by
  rcases h.2 with ⟨a, cap, rfl, rfl⟩ | ⟨b, off, cap, rfl, _, hc⟩
  · cases a with
    | none => exact run_convert_bytes_nil w 24 5 Try.underlying24 Try.underlying5 0 cap 9 Try.underlying9
    | some x =>
      have hl : (loadCells x 0).run Try.prog w = .ok (([] : List Int).map (Value.int .u8)).toArray w := run_loadCells_list (P := Try.prog) w x [] (fun j v hj => by simp at hj)
      rw [run_convert_bytes_string w 24 9 5 _ 0 cap Try.underlying24 Try.underlying5 Try.underlying9, run_bytesToString w _ 0 cap [] hl, foldl_push_bytes]
      rfl
  · exact run_convert_bytes_arg w 24 5 Try.underlying24 Try.underlying5 b off xs.length cap xs rfl (fun i hi => by rw [hc i hi]; simp [List.getD]) 9 Try.underlying9

theorem bytes_inj {xs ys : List Int} (hx : ∀ x ∈ xs, 0 ≤ x ∧ x ≤ 255) (hy : ∀ x ∈ ys, 0 ≤ x ∧ x ≤ 255) : (Lib.bytesOf xs == Lib.bytesOf ys) = sameB xs ys := by
  rw [Bool.eq_iff_iff]
  simp only [beq_iff_eq, sameB, decide_eq_true_eq]
  constructor
  · intro h
    have hl : xs.length = ys.length := by have := congrArg List.length h; simpa [Lib.bytesOf] using this
    refine List.ext_getElem hl fun i h1 h2 => ?_
    have e : (Lib.bytesOf xs)[i]? = (Lib.bytesOf ys)[i]? := by rw [h]
    simp only [Lib.bytesOf, List.getElem?_map, List.getElem?_eq_getElem h1, List.getElem?_eq_getElem h2, Option.map_some, Option.some.injEq] at e
    have a := hx _ (List.getElem_mem h1)
    have b := hy _ (List.getElem_mem h2)
    have e' := congrArg UInt8.toNat e
    simp only [UInt8.toNat_ofNat'] at e'
    omega
  · intro h; rw [h]

set_option maxHeartbeats 1000000 in
theorem beq_any (v1 v2 : Value) (xs ys : List Int) (n1 n2 : Nat) (w : World) (k1 : Byts n1 w v1 xs) (k2 : Byts n2 w v2 ys) :
    Calls Try.prog 17 #[v1, v2] w fun e w' => e = .returned (.bool (sameB xs ys)) ∧ w' = w := by
  have h1 := conv k1
  have h2 := conv k2
  rw [← bytes_inj k1.1 k2.1, ← Lib.strOfNums_toList, ← Lib.strOfNums_toList]
  clear k1 k2
  go_enter Try.func17, Try.ntmps17
  go_wp2
  go_ret
  exact ⟨rfl, rfl⟩

/-- sameAs on the data -/
def sameM (v1 n1 x1 v2 n2 x2 : List Int) : Bool := sameB (srt v1) (srt v2) && sameB (srt n1) (srt n2) && sameB x1 x2

set_option maxHeartbeats 1000000 in
theorem same_any (pv1 pn1 pd1 pv2 pn2 pd2 : Option Addr) (lv1 cv1 ln1 cn1 ld1 cd1 lv2 cv2 ln2 cn2 ld2 cd2 : Nat) (i1 i2 : Int) (v1 n1 x1 v2 n2 x2 : List Int) (w : World)
    (hv1 : Ints w.heap.size w (.slice pv1 lv1 cv1) v1) (hn1 : Ints w.heap.size w (.slice pn1 ln1 cn1) n1) (hx1 : Byts w.heap.size w (.slice pd1 ld1 cd1) x1)
    (hv2 : Ints w.heap.size w (.slice pv2 lv2 cv2) v2) (hn2 : Ints w.heap.size w (.slice pn2 ln2 cn2) n2) (hx2 : Byts w.heap.size w (.slice pd2 ld2 cd2) x2)
    (k1 : v1.length ≤ 1000000) (k2 : n1.length ≤ 1000000) (k3 : v2.length ≤ 1000000) (k4 : n2.length ≤ 1000000) :
    Calls Try.prog 12 #[.agg #[.slice pv1 lv1 cv1, .slice pn1 ln1 cn1, .int .u64 i1, .slice pd1 ld1 cd1], .agg #[.slice pv2 lv2 cv2, .slice pn2 ln2 cn2, .int .u64 i2, .slice pd2 ld2 cd2]] w fun e w' =>
      e = .returned (.bool (sameM v1 n1 x1 v2 n2 x2)) ∧ Below w.heap.size w w' := by
  obtain ⟨A, hA⟩ : ∃ A : Array Value, A = #[.slice pv1 lv1 cv1, .slice pn1 ln1 cn1, .int .u64 i1, .slice pd1 ld1 cd1] := ⟨_, rfl⟩
  obtain ⟨B, hB⟩ : ∃ B : Array Value, B = #[.slice pv2 lv2 cv2, .slice pn2 ln2 cn2, .int .u64 i2, .slice pd2 ld2 cd2] := ⟨_, rfl⟩
  obtain ⟨W0, hW0⟩ : ∃ W0, W0 = (w.alloc (.cells A 27)).alloc (.cells B 27) := ⟨_, rfl⟩
  have hz0 : W0.heap.size = w.heap.size + 2 := by rw [hW0]; simp
  have hb0 : Below w.heap.size w W0 := by rw [hW0]; exact ((Below.refl _ w).alloc (Nat.le_refl _) _).alloc (by simp) _
  have mv : ∀ {v z}, Ints w.heap.size w v z → Ints W0.heap.size W0 v z := fun h => (h.below hb0).mono (by omega)
  have mx : ∀ {v z}, Byts w.heap.size w v z → Byts W0.heap.size W0 v z := fun h => (h.below hb0).mono (by omega)
  have gA : ∀ i, W0.cell? ⟨w.heap.size, i, none⟩ = A[i]? := fun i => by rw [hW0]; simp
  have gB : ∀ i, W0.cell? ⟨w.heap.size + 1, i, none⟩ = B[i]? := fun i => by rw [hW0]; simp
  have gv1 := mv hv1
  have gv2 := mv hv2
  have gn1 := mv hn1
  have gn2 := mv hn2
  have gx1 := mx hx1
  have gx2 := mx hx2
  clear hv1 hv2 hn1 hn2 hx1 hx2 mv mx
  have c1 := ids_any pv1 pv2 lv1 cv1 lv2 cv2 v1 v2 W0 gv1 gv2 k1 k3
  cases hb1 : sameB (srt v1) (srt v2)
  · rw [hb1] at c1
    have hr : sameM v1 n1 x1 v2 n2 x2 = false := by unfold sameM; rw [hb1]; rfl
    rw [hr]
    rw [hW0, hA, hB] at c1
    have HB : Hid (Below w.heap.size w W0) := hb0
    rw [hW0, hA, hB] at HB
    clear gv1 gv2 gn1 gn2 gx1 gx2 gA gB hb0 hz0 hW0 hA hB hr hb1
    go_enter Try.func12, Try.ntmps12
    go_wp2_with fail
    refine c1.mono ?_
    rintro e w2 ⟨rfl, hb2⟩
    go_wp2
    go_ret
    exact ⟨rfl, HB.out.trans (hb2.mono (by simp; omega))⟩
  · rw [hb1] at c1
    have HB : Hid (Below w.heap.size w W0) := hb0
    have HN1 : Hid (Ints W0.heap.size W0 (.slice pn1 ln1 cn1) n1) := gn1
    have HN2 : Hid (Ints W0.heap.size W0 (.slice pn2 ln2 cn2) n2) := gn2
    have HX1 : Hid (Byts W0.heap.size W0 (.slice pd1 ld1 cd1) x1) := gx1
    have HX2 : Hid (Byts W0.heap.size W0 (.slice pd2 ld2 cd2) x2) := gx2
    have hr : sameM v1 n1 x1 v2 n2 x2 = (sameB (srt n1) (srt n2) && sameB x1 x2) := by unfold sameM; rw [hb1, Bool.true_and]
    rw [hr]
    clear gv1 gv2 gn1 gn2 gx1 gx2 gA gB hb0 hz0 hr hb1
    subst hA hB hW0
    go_enter Try.func12, Try.ntmps12
    go_wp2_with fail
    refine c1.mono ?_
    rintro e w2 ⟨rfl, hb2⟩
    clear c1
    have e1 : w2.cell? ⟨w.heap.size, 1, none⟩ = some (.slice pn1 ln1 cn1) := by rw [hb2.cell (p := ⟨w.heap.size, 1, none⟩) (by simp; omega)]; simp
    have e3 : w2.cell? ⟨w.heap.size, 3, none⟩ = some (.slice pd1 ld1 cd1) := by rw [hb2.cell (p := ⟨w.heap.size, 3, none⟩) (by simp; omega)]; simp
    have f1 : w2.cell? ⟨w.heap.size + 1, 1, none⟩ = some (.slice pn2 ln2 cn2) := by rw [hb2.cell (p := ⟨w.heap.size + 1, 1, none⟩) (by simp)]; simp
    have f3 : w2.cell? ⟨w.heap.size + 1, 3, none⟩ = some (.slice pd2 ld2 cd2) := by rw [hb2.cell (p := ⟨w.heap.size + 1, 3, none⟩) (by simp)]; simp
    have hN1 : Ints w2.heap.size w2 (.slice pn1 ln1 cn1) n1 := (HN1.out.below hb2).mono hb2.size
    have hN2 : Ints w2.heap.size w2 (.slice pn2 ln2 cn2) n2 := (HN2.out.below hb2).mono hb2.size
    have hX1 : Byts w2.heap.size w2 (.slice pd1 ld1 cd1) x1 := (HX1.out.below hb2).mono hb2.size
    have hX2 : Byts w2.heap.size w2 (.slice pd2 ld2 cd2) x2 := (HX2.out.below hb2).mono hb2.size
    have hsz : w.heap.size + 1 < w2.heap.size := by have := hb2.size; simp at this; omega
    have HB2 : Hid (Below w.heap.size w w2) := HB.out.trans (hb2.mono (by simp; omega))
    have c2 := ids_any pn1 pn2 ln1 cn1 ln2 cn2 n1 n2 w2 hN1 hN2 k2 k4
    clear HB HN1 HN2 HX1 HX2 hb2 hN1 hN2
    cases hb3 : sameB (srt n1) (srt n2)
    · rw [hb3] at c2
      have H3 : Hid (sameB (srt n1) (srt n2) = false) := hb3
      clear hb3
      go_wp2_with fail
      refine c2.mono ?_
      rintro e w3 ⟨rfl, hb3⟩
      clear c2
      go_wp2
      go_ret
      exact ⟨ret_b (by rw [H3.out]; rfl), HB2.out.trans (hb3.mono (by omega))⟩
    · rw [hb3] at c2
      have H3 : Hid (sameB (srt n1) (srt n2) = true) := hb3
      clear hb3
      go_wp2_with fail
      refine c2.mono ?_
      rintro e w3 ⟨rfl, hb3⟩
      clear c2
      have e3' : w3.cell? ⟨w.heap.size, 3, none⟩ = some (.slice pd1 ld1 cd1) := by rw [hb3.cell (p := ⟨w.heap.size, 3, none⟩) (by simp; omega)]; exact e3
      have f3' : w3.cell? ⟨w.heap.size + 1, 3, none⟩ = some (.slice pd2 ld2 cd2) := by rw [hb3.cell (p := ⟨w.heap.size + 1, 3, none⟩) hsz]; exact f3
      have hX1' := (hX1.below hb3).mono hb3.size
      have hX2' := (hX2.below hb3).mono hb3.size
      have HB3 : Hid (Below w.heap.size w w3) := HB2.out.trans (hb3.mono (by omega))
      clear e1 e3 f1 f3 hX1 hX2 hb3 HB2
      go_wp2_with fail
      refine (beq_any _ _ x1 x2 _ _ _ hX1' hX2').mono ?_
      rintro e w4 ⟨rfl, rfl⟩
      go_wp2
      go_ret
      exact ⟨ret_b (by rw [H3.out, Bool.true_and]), HB3.out⟩
end Go.Proofs.Qxb6631326a
