/-
  The first law of the seat, walked.
-/
import Derived.Test.Qxb6631326aWide
namespace Go.Proofs.Qxb6631326a
open Go.RowKit

/-- what stands from the law's two first boxes on: c in block B0, st in block B1, the arguments' readings, and what lay before -/
structure Env (w : World) (B0 B1 : Nat) (A S : Array Value) (v0 v1 v3 v7 v8 v10 : Value) (z0 z1 z3 z7 z8 z10 : List Int) (X : World) : Prop where
  hA : X.heap[B0]? = some (.cells A 34 (0, 0))
  hS : X.heap[B1]? = some (.cells S 36 (0, 0))
  b0 : B0 < X.heap.size
  b1 : B1 < X.heap.size
  i0 : Ints X.heap.size X v0 z0
  i1 : Ints X.heap.size X v1 z1
  i3 : Byts X.heap.size X v3 z3
  i7 : Ints X.heap.size X v7 z7
  i8 : Ints X.heap.size X v8 z8
  i10 : Byts X.heap.size X v10 z10
  bel : Below w.heap.size w X
theorem Env.step {w : World} {B0 B1 : Nat} {A S : Array Value} {v0 v1 v3 v7 v8 v10 : Value} {z0 z1 z3 z7 z8 z10 : List Int} {X X' : World} (h : Env w B0 B1 A S v0 v1 v3 v7 v8 v10 z0 z1 z3 z7 z8 z10 X) (hb : Below X.heap.size X X') :
    Env w B0 B1 A S v0 v1 v3 v7 v8 v10 z0 z1 z3 z7 z8 z10 X' where
  hA := (hb.block B0 h.b0).trans h.hA
  hS := (hb.block B1 h.b1).trans h.hS
  b0 := Nat.lt_of_lt_of_le h.b0 hb.size
  b1 := Nat.lt_of_lt_of_le h.b1 hb.size
  i0 := (h.i0.below hb).mono hb.size
  i1 := (h.i1.below hb).mono hb.size
  i3 := (h.i3.below hb).mono hb.size
  i7 := (h.i7.below hb).mono hb.size
  i8 := (h.i8.below hb).mono hb.size
  i10 := (h.i10.below hb).mono hb.size
  bel := h.bel.trans (hb.mono h.bel.size)
theorem out_to (pcv pcn pcx pmv pmn pmx : Option Addr) (lcv ccv lcn ccn lcx ccx lmv cmv lmn cmn lmx cmx : Nat) (ci ct mi k a : Int) (w : World) (vc nc xc vm nm xm : List Int) (r : Int)
    (hvc : Ints w.heap.size w (.slice pcv lcv ccv) vc) (hnc : Ints w.heap.size w (.slice pcn lcn ccn) nc) (hxc : Byts w.heap.size w (.slice pcx lcx ccx) xc)
    (hvm : Ints w.heap.size w (.slice pmv lmv cmv) vm) (hnm : Ints w.heap.size w (.slice pmn lmn cmn) nm) (hxm : Byts w.heap.size w (.slice pmx lmx cmx) xm)
    (l1 : vc.length ≤ 1000000) (l2 : nc.length ≤ 1000000) (l3 : vm.length ≤ 1000000) (l4 : nm.length ≤ 1000000) (hr : outC k a ci ct mi (sameM vm nm xm vc nc xc) = r) :
    Calls Try.prog 8 #[chg (.slice pcv lcv ccv) (.slice pcn lcn ccn) (.slice pcx lcx ccx) ci ct, sta (.slice pmv lmv cmv) (.slice pmn lmn cmn) (.slice pmx lmx cmx) mi k a] w fun e w' =>
      e = .returned (.int .u8 r) ∧ Below w.heap.size w w' := by
  have h := out_any pcv pcn pcx pmv pmn pmx lcv ccv lcn ccn lcx ccx lmv cmv lmn cmn lmx cmx ci ct mi k a w vc nc xc vm nm xm hvc hnc hxc hvm hnm hxm l1 l2 l3 l4
  rw [hr] at h
  exact h
theorem same_rev (v n x v' n' x' : List Int) : sameM v.reverse n.reverse x v' n' x' = sameM v n x v' n' x' := by unfold sameM; rw [srt_reverse, srt_reverse]
theorem same_refl (v n x : List Int) : sameM v n x v n x = true := by unfold sameM; rw [sameB_refl, sameB_refl, sameB_refl]; rfl
theorem out_done (k a ci ct : Int) (h : ci ≤ k) : outC k a ci ct ci true = 1 := by unfold outC; rw [if_neg (by omega), if_pos ⟨h, rfl, rfl⟩]
theorem below_alloc (X : World) (o : Obj) : Below X.heap.size X (X.alloc o) := (Below.refl _ X).alloc (Nat.le_refl _) o

set_option maxHeartbeats 4000000 in
theorem order_main (p0 p1 p3 p7 p8 p10 : Option Addr) (l0 c0 l1 c1 l3 c3 l7 c7 l8 c8 l10 c10 : Nat) (a2 a4 a5 a6 a9 : Int) (w : World) (z0 z1 z3 z7 z8 z10 : List Int)
    (i0 : Ints w.heap.size w (.slice p0 l0 c0) z0) (i1 : Ints w.heap.size w (.slice p1 l1 c1) z1) (i3 : Byts w.heap.size w (.slice p3 l3 c3) z3)
    (i7 : Ints w.heap.size w (.slice p7 l7 c7) z7) (i8 : Ints w.heap.size w (.slice p8 l8 c8) z8) (i10 : Byts w.heap.size w (.slice p10 l10 c10) z10)
    (e0 : z0.length = l0) (e1 : z1.length = l1) (e3 : z3.length = l3) (e7 : z7.length = l7) (e8 : z8.length = l8) (e10 : z10.length = l10)
    (h0 : l0 ≤ 16384) (h1 : l1 ≤ 16384) (h3 : l3 ≤ 65536) (h7 : l7 ≤ 16384) (h8 : l8 ≤ 16384) (h10 : l10 ≤ 65536)
    (cz : Calls Try.prog 5 #[.slice p0 l0 c0, .slice p1 l1 c1, .int .u64 a2, .slice p3 l3 c3, .int .u64 a4, .int .u64 a5, .int .u64 a6, .slice p7 l7 c7, .slice p8 l8 c8, .int .u64 a9, .slice p10 l10 c10] w fun e w' => e = .returned (.bool true) ∧ w = w') :
    Calls Try.prog 3 #[.slice p0 l0 c0, .slice p1 l1 c1, .int .u64 a2, .slice p3 l3 c3, .int .u64 a4, .int .u64 a5, .int .u64 a6, .slice p7 l7 c7, .slice p8 l8 c8, .int .u64 a9, .slice p10 l10 c10] w fun e w' =>
      e = .returned (.bool true) ∧ Below w.heap.size w w' := by
  have K0 : Hid (z0.length ≤ 1000000) := by show z0.length ≤ 1000000; omega
  have K1 : Hid (z1.length ≤ 1000000) := by show z1.length ≤ 1000000; omega
  have K3 : Hid (z3.length ≤ 1000000) := by show z3.length ≤ 1000000; omega
  have K7 : Hid (z7.length ≤ 1000000) := by show z7.length ≤ 1000000; omega
  have K8 : Hid (z8.length ≤ 1000000) := by show z8.length ≤ 1000000; omega
  have K10 : Hid (z10.length ≤ 1000000) := by show z10.length ≤ 1000000; omega
  clear e0 e1 e3 e7 e8 e10
  have bel0 : Below w.heap.size w ((w.alloc (.cells (#[.slice p0 l0 c0, .slice p1 l1 c1, .int .u64 a2, .slice p3 l3 c3, .int .u64 a4, .int .u64 0, .int .u64 0, .int .u64 0, .int .u64 0, .int .i64 0, .pointer none]) 34)).alloc (.cells (#[.int .u64 0, .int .u64 0, .int .u64 0, .int .u64 a5, .int .u64 0, .int .u64 a6, .int .u64 0, .int .u64 0, .bool false, .slice p7 l7 c7, .slice p8 l8 c8, .int .u64 a9, .slice p10 l10 c10, .bool false, .slice none 0 0, .slice none 0 0, .int .u64 0, .slice none 0 0, .int .u64 0, .int .u64 0]) 36)) := (below_alloc w _).alloc (by simp) _
  have E1 : Hid (Env w w.heap.size (w.heap.size + 1) (#[.slice p0 l0 c0, .slice p1 l1 c1, .int .u64 a2, .slice p3 l3 c3, .int .u64 a4, .int .u64 0, .int .u64 0, .int .u64 0, .int .u64 0, .int .i64 0, .pointer none]) (#[.int .u64 0, .int .u64 0, .int .u64 0, .int .u64 a5, .int .u64 0, .int .u64 a6, .int .u64 0, .int .u64 0, .bool false, .slice p7 l7 c7, .slice p8 l8 c8, .int .u64 a9, .slice p10 l10 c10, .bool false, .slice none 0 0, .slice none 0 0, .int .u64 0, .slice none 0 0, .int .u64 0, .int .u64 0]) (.slice p0 l0 c0) (.slice p1 l1 c1) (.slice p3 l3 c3) (.slice p7 l7 c7) (.slice p8 l8 c8) (.slice p10 l10 c10) z0 z1 z3 z7 z8 z10 ((w.alloc (.cells (#[.slice p0 l0 c0, .slice p1 l1 c1, .int .u64 a2, .slice p3 l3 c3, .int .u64 a4, .int .u64 0, .int .u64 0, .int .u64 0, .int .u64 0, .int .i64 0, .pointer none]) 34)).alloc (.cells (#[.int .u64 0, .int .u64 0, .int .u64 0, .int .u64 a5, .int .u64 0, .int .u64 a6, .int .u64 0, .int .u64 0, .bool false, .slice p7 l7 c7, .slice p8 l8 c8, .int .u64 a9, .slice p10 l10 c10, .bool false, .slice none 0 0, .slice none 0 0, .int .u64 0, .slice none 0 0, .int .u64 0, .int .u64 0]) 36))) := {
    hA := (Below.heap_alloc _ _ _ (by simp)).trans (heap_alloc_last w _)
    hS := by
      have := heap_alloc_last (w.alloc (.cells (#[.slice p0 l0 c0, .slice p1 l1 c1, .int .u64 a2, .slice p3 l3 c3, .int .u64 a4, .int .u64 0, .int .u64 0, .int .u64 0, .int .u64 0, .int .i64 0, .pointer none]) 34)) (.cells (#[.int .u64 0, .int .u64 0, .int .u64 0, .int .u64 a5, .int .u64 0, .int .u64 a6, .int .u64 0, .int .u64 0, .bool false, .slice p7 l7 c7, .slice p8 l8 c8, .int .u64 a9, .slice p10 l10 c10, .bool false, .slice none 0 0, .slice none 0 0, .int .u64 0, .slice none 0 0, .int .u64 0, .int .u64 0]) 36)
      rwa [World.size_alloc] at this
    b0 := by simp; omega
    b1 := by simp
    i0 := (i0.below bel0).mono (by simp; omega)
    i1 := (i1.below bel0).mono (by simp; omega)
    i3 := (i3.below bel0).mono (by simp; omega)
    i7 := (i7.below bel0).mono (by simp; omega)
    i8 := (i8.below bel0).mono (by simp; omega)
    i10 := (i10.below bel0).mono (by simp; omega)
    bel := bel0 }
  clear bel0 i0 i1 i3 i7 i8 i10
  obtain ⟨O, hO⟩ : ∃ O, outC a5 a6 a2 a4 a9 (sameM z7 z8 z10 z0 z1 z3) = O := ⟨_, rfl⟩
  have bO := outC_bd a5 a6 a2 a4 a9 (sameM z7 z8 z10 z0 z1 z3)
  rw [hO] at bO
  have HO1 : Hid (outC a5 a6 a2 a4 a9 (sameM z7 z8 z10 z0 z1 z3) = O) := hO
  have HO2 : Hid (outC a5 a6 a2 a4 a9 (sameM z7.reverse z8.reverse z10 z0 z1 z3) = O) := by show _ = O; rw [same_rev]; exact hO
  have K7r : Hid (z7.reverse.length ≤ 1000000) := by show z7.reverse.length ≤ 1000000; rw [List.length_reverse]; exact K7.out
  have K8r : Hid (z8.reverse.length ≤ 1000000) := by show z8.reverse.length ≤ 1000000; rw [List.length_reverse]; exact K8.out
  have K0r : Hid (z0.reverse.length ≤ 1000000) := by show z0.reverse.length ≤ 1000000; rw [List.length_reverse]; exact K0.out
  have K1r : Hid (z1.reverse.length ≤ 1000000) := by show z1.reverse.length ≤ 1000000; rw [List.length_reverse]; exact K1.out
  clear hO
  go_enter Try.func3, Try.ntmps3
  go_wp2_with fail
  refine cz.mono ?_
  rintro e w' ⟨rfl, rfl⟩
  clear cz
  go_upto_region 15 with fail
  clear h0 h1 h3 h7 h8 h10
  go_upto_region 16 with (first | (refine wpList_build_to rfl 34 _ rfl _ ?hvA _ (built34 p0 p1 p3 l0 c0 l1 c1 l3 c3 a2 a4) ?_; (case hvA => simp only [List.map_toArray, List.map_cons, List.map_nil]; rfl)) | (refine wpList_store_new rfl 34 _ _ rfl _ _ ?cellsA ?gA ?hxA ?hyA ?hgsA ?hiA ?holdA ?h1A ?_; (case hxA => exact rfl); (case hyA => exact rfl); (case hgsA => simp); (case hiA => exact size34); (case holdA => rfl); (case h1A => simp [Value.oneCell'])))
  go_upto_region 17 with (first | (refine wpList_build_to rfl 36 _ rfl _ ?hvB _ (built36 a5 a6 a9 p7 p8 p10 l7 c7 l8 c8 l10 c10) ?_; (case hvB => simp only [List.map_toArray, List.map_cons, List.map_nil]; rfl)) | (refine wpList_store_new rfl 36 _ _ rfl _ _ ?cellsB ?gB ?hxB ?hyB ?hgsB ?hiB ?holdB ?h1B ?_; (case hxB => exact rfl); (case hyB => exact rfl); (case hgsB => simp); (case hiB => exact size36); (case holdB => rfl); (case h1B => simp [Value.oneCell'])))
  go_wp2_with fail
  refine (rev_any _ _ _ z7 _ E1.out.i7 K7.out).mono ?_
  rintro e w1 ⟨q7, m7, d7, rfl, j7, hb1⟩
  have E2 : Hid (Env w w.heap.size (w.heap.size + 1) (#[.slice p0 l0 c0, .slice p1 l1 c1, .int .u64 a2, .slice p3 l3 c3, .int .u64 a4, .int .u64 0, .int .u64 0, .int .u64 0, .int .u64 0, .int .i64 0, .pointer none]) (#[.int .u64 0, .int .u64 0, .int .u64 0, .int .u64 a5, .int .u64 0, .int .u64 a6, .int .u64 0, .int .u64 0, .bool false, .slice p7 l7 c7, .slice p8 l8 c8, .int .u64 a9, .slice p10 l10 c10, .bool false, .slice none 0 0, .slice none 0 0, .int .u64 0, .slice none 0 0, .int .u64 0, .int .u64 0]) (.slice p0 l0 c0) (.slice p1 l1 c1) (.slice p3 l3 c3) (.slice p7 l7 c7) (.slice p8 l8 c8) (.slice p10 l10 c10) z0 z1 z3 z7 z8 z10 w1) := E1.out.step hb1
  clear E1 hb1
  have J7 : Hid (Ints w1.heap.size w1 (.slice q7 m7 d7) z7.reverse) := j7
  clear j7
  go_wp2_with fail
  refine (rev_any _ _ _ z8 _ E2.out.i8 K8.out).mono ?_
  rintro e w2 ⟨q8, m8, d8, rfl, j8, hb2⟩
  have E3 : Hid (Env w w.heap.size (w.heap.size + 1) (#[.slice p0 l0 c0, .slice p1 l1 c1, .int .u64 a2, .slice p3 l3 c3, .int .u64 a4, .int .u64 0, .int .u64 0, .int .u64 0, .int .u64 0, .int .i64 0, .pointer none]) (#[.int .u64 0, .int .u64 0, .int .u64 0, .int .u64 a5, .int .u64 0, .int .u64 a6, .int .u64 0, .int .u64 0, .bool false, .slice p7 l7 c7, .slice p8 l8 c8, .int .u64 a9, .slice p10 l10 c10, .bool false, .slice none 0 0, .slice none 0 0, .int .u64 0, .slice none 0 0, .int .u64 0, .int .u64 0]) (.slice p0 l0 c0) (.slice p1 l1 c1) (.slice p3 l3 c3) (.slice p7 l7 c7) (.slice p8 l8 c8) (.slice p10 l10 c10) z0 z1 z3 z7 z8 z10 w2) := E2.out.step hb2
  have J7' : Hid (Ints w2.heap.size w2 (.slice q7 m7 d7) z7.reverse) := (J7.out.below hb2).mono hb2.size
  have J8 : Hid (Ints w2.heap.size w2 (.slice q8 m8 d8) z8.reverse) := j8
  clear E2 hb2 J7 j8
  go_wp2_with fail
  refine (cpy_any _ _ _ z10 _ E3.out.i10 K10.out).mono ?_
  rintro e w3 ⟨q10, m10, d10, rfl, j10, hb3⟩
  have hb4 : Below w2.heap.size w2 (w3.alloc (.cells (#[.int .u64 0, .int .u64 0, .int .u64 0, .int .u64 a5, .int .u64 0, .int .u64 a6, .int .u64 0, .int .u64 0, .bool false, .slice q7 m7 d7, .slice q8 m8 d8, .int .u64 a9, .slice q10 m10 d10, .bool false, .slice none 0 0, .slice none 0 0, .int .u64 0, .slice none 0 0, .int .u64 0, .int .u64 0]) 36)) := hb3.trans ((below_alloc w3 _).mono hb3.size)
  have E4 : Hid (Env w w.heap.size (w.heap.size + 1) (#[.slice p0 l0 c0, .slice p1 l1 c1, .int .u64 a2, .slice p3 l3 c3, .int .u64 a4, .int .u64 0, .int .u64 0, .int .u64 0, .int .u64 0, .int .i64 0, .pointer none]) (#[.int .u64 0, .int .u64 0, .int .u64 0, .int .u64 a5, .int .u64 0, .int .u64 a6, .int .u64 0, .int .u64 0, .bool false, .slice p7 l7 c7, .slice p8 l8 c8, .int .u64 a9, .slice p10 l10 c10, .bool false, .slice none 0 0, .slice none 0 0, .int .u64 0, .slice none 0 0, .int .u64 0, .int .u64 0]) (.slice p0 l0 c0) (.slice p1 l1 c1) (.slice p3 l3 c3) (.slice p7 l7 c7) (.slice p8 l8 c8) (.slice p10 l10 c10) z0 z1 z3 z7 z8 z10 (w3.alloc (.cells (#[.int .u64 0, .int .u64 0, .int .u64 0, .int .u64 a5, .int .u64 0, .int .u64 a6, .int .u64 0, .int .u64 0, .bool false, .slice q7 m7 d7, .slice q8 m8 d8, .int .u64 a9, .slice q10 m10 d10, .bool false, .slice none 0 0, .slice none 0 0, .int .u64 0, .slice none 0 0, .int .u64 0, .int .u64 0]) 36))) := E3.out.step hb4
  have R7 : Hid (Ints (w3.alloc (.cells (#[.int .u64 0, .int .u64 0, .int .u64 0, .int .u64 a5, .int .u64 0, .int .u64 a6, .int .u64 0, .int .u64 0, .bool false, .slice q7 m7 d7, .slice q8 m8 d8, .int .u64 a9, .slice q10 m10 d10, .bool false, .slice none 0 0, .slice none 0 0, .int .u64 0, .slice none 0 0, .int .u64 0, .int .u64 0]) 36)).heap.size (w3.alloc (.cells (#[.int .u64 0, .int .u64 0, .int .u64 0, .int .u64 a5, .int .u64 0, .int .u64 a6, .int .u64 0, .int .u64 0, .bool false, .slice q7 m7 d7, .slice q8 m8 d8, .int .u64 a9, .slice q10 m10 d10, .bool false, .slice none 0 0, .slice none 0 0, .int .u64 0, .slice none 0 0, .int .u64 0, .int .u64 0]) 36)) (.slice q7 m7 d7) z7.reverse) := (J7'.out.below hb4).mono hb4.size
  have R8 : Hid (Ints (w3.alloc (.cells (#[.int .u64 0, .int .u64 0, .int .u64 0, .int .u64 a5, .int .u64 0, .int .u64 a6, .int .u64 0, .int .u64 0, .bool false, .slice q7 m7 d7, .slice q8 m8 d8, .int .u64 a9, .slice q10 m10 d10, .bool false, .slice none 0 0, .slice none 0 0, .int .u64 0, .slice none 0 0, .int .u64 0, .int .u64 0]) 36)).heap.size (w3.alloc (.cells (#[.int .u64 0, .int .u64 0, .int .u64 0, .int .u64 a5, .int .u64 0, .int .u64 a6, .int .u64 0, .int .u64 0, .bool false, .slice q7 m7 d7, .slice q8 m8 d8, .int .u64 a9, .slice q10 m10 d10, .bool false, .slice none 0 0, .slice none 0 0, .int .u64 0, .slice none 0 0, .int .u64 0, .int .u64 0]) 36)) (.slice q8 m8 d8) z8.reverse) := (J8.out.below hb4).mono hb4.size
  have R10 : Hid (Byts (w3.alloc (.cells (#[.int .u64 0, .int .u64 0, .int .u64 0, .int .u64 a5, .int .u64 0, .int .u64 a6, .int .u64 0, .int .u64 0, .bool false, .slice q7 m7 d7, .slice q8 m8 d8, .int .u64 a9, .slice q10 m10 d10, .bool false, .slice none 0 0, .slice none 0 0, .int .u64 0, .slice none 0 0, .int .u64 0, .int .u64 0]) 36)).heap.size (w3.alloc (.cells (#[.int .u64 0, .int .u64 0, .int .u64 0, .int .u64 a5, .int .u64 0, .int .u64 a6, .int .u64 0, .int .u64 0, .bool false, .slice q7 m7 d7, .slice q8 m8 d8, .int .u64 a9, .slice q10 m10 d10, .bool false, .slice none 0 0, .slice none 0 0, .int .u64 0, .slice none 0 0, .int .u64 0, .int .u64 0]) 36)) (.slice q10 m10 d10) z10) := (j10.below (below_alloc w3 _)).mono (by simp)
  have RB : Hid ((w3.alloc (.cells (#[.int .u64 0, .int .u64 0, .int .u64 0, .int .u64 a5, .int .u64 0, .int .u64 a6, .int .u64 0, .int .u64 0, .bool false, .slice q7 m7 d7, .slice q8 m8 d8, .int .u64 a9, .slice q10 m10 d10, .bool false, .slice none 0 0, .slice none 0 0, .int .u64 0, .slice none 0 0, .int .u64 0, .int .u64 0]) 36)).heap[w3.heap.size]? = some (.cells (#[.int .u64 0, .int .u64 0, .int .u64 0, .int .u64 a5, .int .u64 0, .int .u64 a6, .int .u64 0, .int .u64 0, .bool false, .slice q7 m7 d7, .slice q8 m8 d8, .int .u64 a9, .slice q10 m10 d10, .bool false, .slice none 0 0, .slice none 0 0, .int .u64 0, .slice none 0 0, .int .u64 0, .int .u64 0]) 36 (0, 0))) := heap_alloc_last w3 _
  clear E3 hb3 hb4 J7' J8 j10
  go_upto_region 18 with (first | (refine wpList_build_to rfl 36 _ rfl _ ?hvC _ (built36 a5 a6 a9 q7 q8 q10 m7 d7 m8 d8 m10 d10) ?_; (case hvC => simp only [List.map_toArray, List.map_cons, List.map_nil]; rfl)) | (refine wpList_store_new rfl 36 _ _ rfl _ _ ?cellsC ?gC ?hxC ?hyC ?hgsC ?hiC ?holdC ?h1C ?_; (case hxC => exact rfl); (case hyC => exact rfl); (case hgsC => simp); (case hiC => exact size36); (case holdC => rfl); (case h1C => simp [Value.oneCell'])))
  have HA4 := E4.out.hA
  have HS4 := E4.out.hS
  go_wp2_with (first | (refine wpList_load_row rfl 34 _ rfl _ rfl _ _ _ _ HA4 Try.underlying34 rfl size34 ?_) | (refine wpList_load_row rfl 36 _ rfl _ rfl _ _ _ _ HS4 Try.underlying36 rfl size36 ?_))
  refine (out_to p0 p1 p3 p7 p8 p10 l0 c0 l1 c1 l3 c3 l7 c7 l8 c8 l10 c10 a2 a4 a9 a5 a6 _ z0 z1 z3 z7 z8 z10 O E4.out.i0 E4.out.i1 E4.out.i3 E4.out.i7 E4.out.i8 E4.out.i10 K0.out K1.out K7.out K8.out HO1.out).mono ?_
  rintro e w5 ⟨rfl, hb5⟩
  have E5 : Hid (Env w w.heap.size (w.heap.size + 1) (#[.slice p0 l0 c0, .slice p1 l1 c1, .int .u64 a2, .slice p3 l3 c3, .int .u64 a4, .int .u64 0, .int .u64 0, .int .u64 0, .int .u64 0, .int .i64 0, .pointer none]) (#[.int .u64 0, .int .u64 0, .int .u64 0, .int .u64 a5, .int .u64 0, .int .u64 a6, .int .u64 0, .int .u64 0, .bool false, .slice p7 l7 c7, .slice p8 l8 c8, .int .u64 a9, .slice p10 l10 c10, .bool false, .slice none 0 0, .slice none 0 0, .int .u64 0, .slice none 0 0, .int .u64 0, .int .u64 0]) (.slice p0 l0 c0) (.slice p1 l1 c1) (.slice p3 l3 c3) (.slice p7 l7 c7) (.slice p8 l8 c8) (.slice p10 l10 c10) z0 z1 z3 z7 z8 z10 w5) := E4.out.step hb5
  have R7b : Hid (Ints w5.heap.size w5 (.slice q7 m7 d7) z7.reverse) := (R7.out.below hb5).mono hb5.size
  have R8b : Hid (Ints w5.heap.size w5 (.slice q8 m8 d8) z8.reverse) := (R8.out.below hb5).mono hb5.size
  have R10b : Hid (Byts w5.heap.size w5 (.slice q10 m10 d10) z10) := (R10.out.below hb5).mono hb5.size
  have RBb : w5.heap[w3.heap.size]? = some (.cells (#[.int .u64 0, .int .u64 0, .int .u64 0, .int .u64 a5, .int .u64 0, .int .u64 a6, .int .u64 0, .int .u64 0, .bool false, .slice q7 m7 d7, .slice q8 m8 d8, .int .u64 a9, .slice q10 m10 d10, .bool false, .slice none 0 0, .slice none 0 0, .int .u64 0, .slice none 0 0, .int .u64 0, .int .u64 0]) 36 (0, 0)) := (hb5.block w3.heap.size (by simp)).trans RB.out
  have HA5 := E5.out.hA
  clear E4 HA4 HS4 R7 R8 R10 RB hb5 HO1
  go_wp2_with (first | (refine wpList_load_row rfl 34 _ rfl _ rfl _ _ _ _ HA5 Try.underlying34 rfl size34 ?_) | (refine wpList_load_row rfl 36 _ rfl _ rfl _ _ _ _ RBb Try.underlying36 rfl size36 ?_))
  refine (out_to p0 p1 p3 q7 q8 q10 l0 c0 l1 c1 l3 c3 m7 d7 m8 d8 m10 d10 a2 a4 a9 a5 a6 _ z0 z1 z3 z7.reverse z8.reverse z10 O E5.out.i0 E5.out.i1 E5.out.i3 R7b.out R8b.out R10b.out K0.out K1.out K7r.out K8r.out HO2.out).mono ?_
  rintro e w6 ⟨rfl, hb6⟩
  have E6 : Hid (Env w w.heap.size (w.heap.size + 1) (#[.slice p0 l0 c0, .slice p1 l1 c1, .int .u64 a2, .slice p3 l3 c3, .int .u64 a4, .int .u64 0, .int .u64 0, .int .u64 0, .int .u64 0, .int .i64 0, .pointer none]) (#[.int .u64 0, .int .u64 0, .int .u64 0, .int .u64 a5, .int .u64 0, .int .u64 a6, .int .u64 0, .int .u64 0, .bool false, .slice p7 l7 c7, .slice p8 l8 c8, .int .u64 a9, .slice p10 l10 c10, .bool false, .slice none 0 0, .slice none 0 0, .int .u64 0, .slice none 0 0, .int .u64 0, .int .u64 0]) (.slice p0 l0 c0) (.slice p1 l1 c1) (.slice p3 l3 c3) (.slice p7 l7 c7) (.slice p8 l8 c8) (.slice p10 l10 c10) z0 z1 z3 z7 z8 z10 w6) := E5.out.step hb6
  clear E5 HA5 R7b R8b R10b RBb hb6 HO2 K7 K8 K7r K8r K10
  by_cases hcm : a5 < a2
  · have HCM : Hid (a2 ≤ a2) := Int.le_refl _
    go_upto_region 27 with fail
    go_wp2_with fail
    refine (rev_any _ _ _ z0 _ E6.out.i0 K0.out).mono ?_
    rintro e w7 ⟨q0, m0, d0, rfl, j0, hb7⟩
    have E7 : Hid (Env w w.heap.size (w.heap.size + 1) (#[.slice p0 l0 c0, .slice p1 l1 c1, .int .u64 a2, .slice p3 l3 c3, .int .u64 a4, .int .u64 0, .int .u64 0, .int .u64 0, .int .u64 0, .int .i64 0, .pointer none]) (#[.int .u64 0, .int .u64 0, .int .u64 0, .int .u64 a5, .int .u64 0, .int .u64 a6, .int .u64 0, .int .u64 0, .bool false, .slice p7 l7 c7, .slice p8 l8 c8, .int .u64 a9, .slice p10 l10 c10, .bool false, .slice none 0 0, .slice none 0 0, .int .u64 0, .slice none 0 0, .int .u64 0, .int .u64 0]) (.slice p0 l0 c0) (.slice p1 l1 c1) (.slice p3 l3 c3) (.slice p7 l7 c7) (.slice p8 l8 c8) (.slice p10 l10 c10) z0 z1 z3 z7 z8 z10 w7) := E6.out.step hb7
    have J0 : Hid (Ints w7.heap.size w7 (.slice q0 m0 d0) z0.reverse) := j0
    clear E6 hb7 j0
    go_wp2_with fail
    refine (rev_any _ _ _ z1 _ E7.out.i1 K1.out).mono ?_
    rintro e w8 ⟨q1, m1, d1, rfl, j1, hb8⟩
    have E8 : Hid (Env w w.heap.size (w.heap.size + 1) (#[.slice p0 l0 c0, .slice p1 l1 c1, .int .u64 a2, .slice p3 l3 c3, .int .u64 a4, .int .u64 0, .int .u64 0, .int .u64 0, .int .u64 0, .int .i64 0, .pointer none]) (#[.int .u64 0, .int .u64 0, .int .u64 0, .int .u64 a5, .int .u64 0, .int .u64 a6, .int .u64 0, .int .u64 0, .bool false, .slice p7 l7 c7, .slice p8 l8 c8, .int .u64 a9, .slice p10 l10 c10, .bool false, .slice none 0 0, .slice none 0 0, .int .u64 0, .slice none 0 0, .int .u64 0, .int .u64 0]) (.slice p0 l0 c0) (.slice p1 l1 c1) (.slice p3 l3 c3) (.slice p7 l7 c7) (.slice p8 l8 c8) (.slice p10 l10 c10) z0 z1 z3 z7 z8 z10 w8) := E7.out.step hb8
    have J0b : Hid (Ints w8.heap.size w8 (.slice q0 m0 d0) z0.reverse) := (J0.out.below hb8).mono hb8.size
    have J1 : Hid (Ints w8.heap.size w8 (.slice q1 m1 d1) z1.reverse) := j1
    clear E7 hb8 J0 j1
    go_wp2_with fail
    refine (cpy_any _ _ _ z3 _ E8.out.i3 K3.out).mono ?_
    rintro e w9 ⟨q3, m3, d3, rfl, j3, hb9⟩
    have hb10 : Below w8.heap.size w8 (w9.alloc (.cells (#[.int .u64 0, .int .u64 0, .int .u64 0, .int .u64 a2, .int .u64 0, .int .u64 a6, .int .u64 0, .int .u64 0, .bool false, .slice q0 m0 d0, .slice q1 m1 d1, .int .u64 a2, .slice q3 m3 d3, .bool false, .slice none 0 0, .slice none 0 0, .int .u64 0, .slice none 0 0, .int .u64 0, .int .u64 0]) 36)) := hb9.trans ((below_alloc w9 _).mono hb9.size)
    have E10 : Hid (Env w w.heap.size (w.heap.size + 1) (#[.slice p0 l0 c0, .slice p1 l1 c1, .int .u64 a2, .slice p3 l3 c3, .int .u64 a4, .int .u64 0, .int .u64 0, .int .u64 0, .int .u64 0, .int .i64 0, .pointer none]) (#[.int .u64 0, .int .u64 0, .int .u64 0, .int .u64 a5, .int .u64 0, .int .u64 a6, .int .u64 0, .int .u64 0, .bool false, .slice p7 l7 c7, .slice p8 l8 c8, .int .u64 a9, .slice p10 l10 c10, .bool false, .slice none 0 0, .slice none 0 0, .int .u64 0, .slice none 0 0, .int .u64 0, .int .u64 0]) (.slice p0 l0 c0) (.slice p1 l1 c1) (.slice p3 l3 c3) (.slice p7 l7 c7) (.slice p8 l8 c8) (.slice p10 l10 c10) z0 z1 z3 z7 z8 z10 (w9.alloc (.cells (#[.int .u64 0, .int .u64 0, .int .u64 0, .int .u64 a2, .int .u64 0, .int .u64 a6, .int .u64 0, .int .u64 0, .bool false, .slice q0 m0 d0, .slice q1 m1 d1, .int .u64 a2, .slice q3 m3 d3, .bool false, .slice none 0 0, .slice none 0 0, .int .u64 0, .slice none 0 0, .int .u64 0, .int .u64 0]) 36))) := E8.out.step hb10
    have T0 : Hid (Ints (w9.alloc (.cells (#[.int .u64 0, .int .u64 0, .int .u64 0, .int .u64 a2, .int .u64 0, .int .u64 a6, .int .u64 0, .int .u64 0, .bool false, .slice q0 m0 d0, .slice q1 m1 d1, .int .u64 a2, .slice q3 m3 d3, .bool false, .slice none 0 0, .slice none 0 0, .int .u64 0, .slice none 0 0, .int .u64 0, .int .u64 0]) 36)).heap.size (w9.alloc (.cells (#[.int .u64 0, .int .u64 0, .int .u64 0, .int .u64 a2, .int .u64 0, .int .u64 a6, .int .u64 0, .int .u64 0, .bool false, .slice q0 m0 d0, .slice q1 m1 d1, .int .u64 a2, .slice q3 m3 d3, .bool false, .slice none 0 0, .slice none 0 0, .int .u64 0, .slice none 0 0, .int .u64 0, .int .u64 0]) 36)) (.slice q0 m0 d0) z0.reverse) := (J0b.out.below hb10).mono hb10.size
    have T1 : Hid (Ints (w9.alloc (.cells (#[.int .u64 0, .int .u64 0, .int .u64 0, .int .u64 a2, .int .u64 0, .int .u64 a6, .int .u64 0, .int .u64 0, .bool false, .slice q0 m0 d0, .slice q1 m1 d1, .int .u64 a2, .slice q3 m3 d3, .bool false, .slice none 0 0, .slice none 0 0, .int .u64 0, .slice none 0 0, .int .u64 0, .int .u64 0]) 36)).heap.size (w9.alloc (.cells (#[.int .u64 0, .int .u64 0, .int .u64 0, .int .u64 a2, .int .u64 0, .int .u64 a6, .int .u64 0, .int .u64 0, .bool false, .slice q0 m0 d0, .slice q1 m1 d1, .int .u64 a2, .slice q3 m3 d3, .bool false, .slice none 0 0, .slice none 0 0, .int .u64 0, .slice none 0 0, .int .u64 0, .int .u64 0]) 36)) (.slice q1 m1 d1) z1.reverse) := (J1.out.below hb10).mono hb10.size
    have T3 : Hid (Byts (w9.alloc (.cells (#[.int .u64 0, .int .u64 0, .int .u64 0, .int .u64 a2, .int .u64 0, .int .u64 a6, .int .u64 0, .int .u64 0, .bool false, .slice q0 m0 d0, .slice q1 m1 d1, .int .u64 a2, .slice q3 m3 d3, .bool false, .slice none 0 0, .slice none 0 0, .int .u64 0, .slice none 0 0, .int .u64 0, .int .u64 0]) 36)).heap.size (w9.alloc (.cells (#[.int .u64 0, .int .u64 0, .int .u64 0, .int .u64 a2, .int .u64 0, .int .u64 a6, .int .u64 0, .int .u64 0, .bool false, .slice q0 m0 d0, .slice q1 m1 d1, .int .u64 a2, .slice q3 m3 d3, .bool false, .slice none 0 0, .slice none 0 0, .int .u64 0, .slice none 0 0, .int .u64 0, .int .u64 0]) 36)) (.slice q3 m3 d3) z3) := (j3.below (below_alloc w9 _)).mono (by simp)
    have TB : Hid ((w9.alloc (.cells (#[.int .u64 0, .int .u64 0, .int .u64 0, .int .u64 a2, .int .u64 0, .int .u64 a6, .int .u64 0, .int .u64 0, .bool false, .slice q0 m0 d0, .slice q1 m1 d1, .int .u64 a2, .slice q3 m3 d3, .bool false, .slice none 0 0, .slice none 0 0, .int .u64 0, .slice none 0 0, .int .u64 0, .int .u64 0]) 36)).heap[w9.heap.size]? = some (.cells (#[.int .u64 0, .int .u64 0, .int .u64 0, .int .u64 a2, .int .u64 0, .int .u64 a6, .int .u64 0, .int .u64 0, .bool false, .slice q0 m0 d0, .slice q1 m1 d1, .int .u64 a2, .slice q3 m3 d3, .bool false, .slice none 0 0, .slice none 0 0, .int .u64 0, .slice none 0 0, .int .u64 0, .int .u64 0]) 36 (0, 0))) := heap_alloc_last w9 _
    clear E8 hb9 hb10 J0b J1 j3
    go_upto_region 28 with (first | (refine wpList_build_to rfl 36 _ rfl _ ?hvD _ (built36 a2 a6 a2 q0 q1 q3 m0 d0 m1 d1 m3 d3) ?_; (case hvD => simp only [List.map_toArray, List.map_cons, List.map_nil]; rfl)) | (refine wpList_store_new rfl 36 _ _ rfl _ _ ?cellsD ?gD ?hxD ?hyD ?hgsD ?hiD ?holdD ?h1D ?_; (case hxD => exact rfl); (case hyD => exact rfl); (case hgsD => simp); (case hiD => exact size36); (case holdD => rfl); (case h1D => simp [Value.oneCell'])))
    have HA10 := E10.out.hA
    have TB10 := TB.out
    go_wp2_with (first | (refine wpList_load_row rfl 34 _ rfl _ rfl _ _ _ _ HA10 Try.underlying34 rfl size34 ?_) | (refine wpList_load_row rfl 36 _ rfl _ rfl _ _ _ _ TB10 Try.underlying36 rfl size36 ?_))
    refine (out_to p0 p1 p3 q0 q1 q3 l0 c0 l1 c1 l3 c3 m0 d0 m1 d1 m3 d3 a2 a4 a2 a2 a6 _ z0 z1 z3 z0.reverse z1.reverse z3 1 E10.out.i0 E10.out.i1 E10.out.i3 T0.out T1.out T3.out K0.out K1.out K0r.out K1r.out (by rw [same_rev, same_refl]; exact out_done _ _ _ _ HCM.out)).mono ?_
    rintro e w11 ⟨rfl, hb11⟩
    have EL : Hid (Below w.heap.size w w11) := (E10.out.step hb11).bel
    clear E10 HA10 TB10 TB T0 T1 T3 hb11
    go_wp2
    go_ret
    exact ⟨rfl, EL.out⟩
  · have HCM : Hid (a2 ≤ a5) := Int.not_lt.1 hcm
    go_upto_region 27 with fail
    go_wp2_with fail
    refine (rev_any _ _ _ z0 _ E6.out.i0 K0.out).mono ?_
    rintro e w7 ⟨q0, m0, d0, rfl, j0, hb7⟩
    have E7 : Hid (Env w w.heap.size (w.heap.size + 1) (#[.slice p0 l0 c0, .slice p1 l1 c1, .int .u64 a2, .slice p3 l3 c3, .int .u64 a4, .int .u64 0, .int .u64 0, .int .u64 0, .int .u64 0, .int .i64 0, .pointer none]) (#[.int .u64 0, .int .u64 0, .int .u64 0, .int .u64 a5, .int .u64 0, .int .u64 a6, .int .u64 0, .int .u64 0, .bool false, .slice p7 l7 c7, .slice p8 l8 c8, .int .u64 a9, .slice p10 l10 c10, .bool false, .slice none 0 0, .slice none 0 0, .int .u64 0, .slice none 0 0, .int .u64 0, .int .u64 0]) (.slice p0 l0 c0) (.slice p1 l1 c1) (.slice p3 l3 c3) (.slice p7 l7 c7) (.slice p8 l8 c8) (.slice p10 l10 c10) z0 z1 z3 z7 z8 z10 w7) := E6.out.step hb7
    have J0 : Hid (Ints w7.heap.size w7 (.slice q0 m0 d0) z0.reverse) := j0
    clear E6 hb7 j0
    go_wp2_with fail
    refine (rev_any _ _ _ z1 _ E7.out.i1 K1.out).mono ?_
    rintro e w8 ⟨q1, m1, d1, rfl, j1, hb8⟩
    have E8 : Hid (Env w w.heap.size (w.heap.size + 1) (#[.slice p0 l0 c0, .slice p1 l1 c1, .int .u64 a2, .slice p3 l3 c3, .int .u64 a4, .int .u64 0, .int .u64 0, .int .u64 0, .int .u64 0, .int .i64 0, .pointer none]) (#[.int .u64 0, .int .u64 0, .int .u64 0, .int .u64 a5, .int .u64 0, .int .u64 a6, .int .u64 0, .int .u64 0, .bool false, .slice p7 l7 c7, .slice p8 l8 c8, .int .u64 a9, .slice p10 l10 c10, .bool false, .slice none 0 0, .slice none 0 0, .int .u64 0, .slice none 0 0, .int .u64 0, .int .u64 0]) (.slice p0 l0 c0) (.slice p1 l1 c1) (.slice p3 l3 c3) (.slice p7 l7 c7) (.slice p8 l8 c8) (.slice p10 l10 c10) z0 z1 z3 z7 z8 z10 w8) := E7.out.step hb8
    have J0b : Hid (Ints w8.heap.size w8 (.slice q0 m0 d0) z0.reverse) := (J0.out.below hb8).mono hb8.size
    have J1 : Hid (Ints w8.heap.size w8 (.slice q1 m1 d1) z1.reverse) := j1
    clear E7 hb8 J0 j1
    go_wp2_with fail
    refine (cpy_any _ _ _ z3 _ E8.out.i3 K3.out).mono ?_
    rintro e w9 ⟨q3, m3, d3, rfl, j3, hb9⟩
    have hb10 : Below w8.heap.size w8 (w9.alloc (.cells (#[.int .u64 0, .int .u64 0, .int .u64 0, .int .u64 a5, .int .u64 0, .int .u64 a6, .int .u64 0, .int .u64 0, .bool false, .slice q0 m0 d0, .slice q1 m1 d1, .int .u64 a2, .slice q3 m3 d3, .bool false, .slice none 0 0, .slice none 0 0, .int .u64 0, .slice none 0 0, .int .u64 0, .int .u64 0]) 36)) := hb9.trans ((below_alloc w9 _).mono hb9.size)
    have E10 : Hid (Env w w.heap.size (w.heap.size + 1) (#[.slice p0 l0 c0, .slice p1 l1 c1, .int .u64 a2, .slice p3 l3 c3, .int .u64 a4, .int .u64 0, .int .u64 0, .int .u64 0, .int .u64 0, .int .i64 0, .pointer none]) (#[.int .u64 0, .int .u64 0, .int .u64 0, .int .u64 a5, .int .u64 0, .int .u64 a6, .int .u64 0, .int .u64 0, .bool false, .slice p7 l7 c7, .slice p8 l8 c8, .int .u64 a9, .slice p10 l10 c10, .bool false, .slice none 0 0, .slice none 0 0, .int .u64 0, .slice none 0 0, .int .u64 0, .int .u64 0]) (.slice p0 l0 c0) (.slice p1 l1 c1) (.slice p3 l3 c3) (.slice p7 l7 c7) (.slice p8 l8 c8) (.slice p10 l10 c10) z0 z1 z3 z7 z8 z10 (w9.alloc (.cells (#[.int .u64 0, .int .u64 0, .int .u64 0, .int .u64 a5, .int .u64 0, .int .u64 a6, .int .u64 0, .int .u64 0, .bool false, .slice q0 m0 d0, .slice q1 m1 d1, .int .u64 a2, .slice q3 m3 d3, .bool false, .slice none 0 0, .slice none 0 0, .int .u64 0, .slice none 0 0, .int .u64 0, .int .u64 0]) 36))) := E8.out.step hb10
    have T0 : Hid (Ints (w9.alloc (.cells (#[.int .u64 0, .int .u64 0, .int .u64 0, .int .u64 a5, .int .u64 0, .int .u64 a6, .int .u64 0, .int .u64 0, .bool false, .slice q0 m0 d0, .slice q1 m1 d1, .int .u64 a2, .slice q3 m3 d3, .bool false, .slice none 0 0, .slice none 0 0, .int .u64 0, .slice none 0 0, .int .u64 0, .int .u64 0]) 36)).heap.size (w9.alloc (.cells (#[.int .u64 0, .int .u64 0, .int .u64 0, .int .u64 a5, .int .u64 0, .int .u64 a6, .int .u64 0, .int .u64 0, .bool false, .slice q0 m0 d0, .slice q1 m1 d1, .int .u64 a2, .slice q3 m3 d3, .bool false, .slice none 0 0, .slice none 0 0, .int .u64 0, .slice none 0 0, .int .u64 0, .int .u64 0]) 36)) (.slice q0 m0 d0) z0.reverse) := (J0b.out.below hb10).mono hb10.size
    have T1 : Hid (Ints (w9.alloc (.cells (#[.int .u64 0, .int .u64 0, .int .u64 0, .int .u64 a5, .int .u64 0, .int .u64 a6, .int .u64 0, .int .u64 0, .bool false, .slice q0 m0 d0, .slice q1 m1 d1, .int .u64 a2, .slice q3 m3 d3, .bool false, .slice none 0 0, .slice none 0 0, .int .u64 0, .slice none 0 0, .int .u64 0, .int .u64 0]) 36)).heap.size (w9.alloc (.cells (#[.int .u64 0, .int .u64 0, .int .u64 0, .int .u64 a5, .int .u64 0, .int .u64 a6, .int .u64 0, .int .u64 0, .bool false, .slice q0 m0 d0, .slice q1 m1 d1, .int .u64 a2, .slice q3 m3 d3, .bool false, .slice none 0 0, .slice none 0 0, .int .u64 0, .slice none 0 0, .int .u64 0, .int .u64 0]) 36)) (.slice q1 m1 d1) z1.reverse) := (J1.out.below hb10).mono hb10.size
    have T3 : Hid (Byts (w9.alloc (.cells (#[.int .u64 0, .int .u64 0, .int .u64 0, .int .u64 a5, .int .u64 0, .int .u64 a6, .int .u64 0, .int .u64 0, .bool false, .slice q0 m0 d0, .slice q1 m1 d1, .int .u64 a2, .slice q3 m3 d3, .bool false, .slice none 0 0, .slice none 0 0, .int .u64 0, .slice none 0 0, .int .u64 0, .int .u64 0]) 36)).heap.size (w9.alloc (.cells (#[.int .u64 0, .int .u64 0, .int .u64 0, .int .u64 a5, .int .u64 0, .int .u64 a6, .int .u64 0, .int .u64 0, .bool false, .slice q0 m0 d0, .slice q1 m1 d1, .int .u64 a2, .slice q3 m3 d3, .bool false, .slice none 0 0, .slice none 0 0, .int .u64 0, .slice none 0 0, .int .u64 0, .int .u64 0]) 36)) (.slice q3 m3 d3) z3) := (j3.below (below_alloc w9 _)).mono (by simp)
    have TB : Hid ((w9.alloc (.cells (#[.int .u64 0, .int .u64 0, .int .u64 0, .int .u64 a5, .int .u64 0, .int .u64 a6, .int .u64 0, .int .u64 0, .bool false, .slice q0 m0 d0, .slice q1 m1 d1, .int .u64 a2, .slice q3 m3 d3, .bool false, .slice none 0 0, .slice none 0 0, .int .u64 0, .slice none 0 0, .int .u64 0, .int .u64 0]) 36)).heap[w9.heap.size]? = some (.cells (#[.int .u64 0, .int .u64 0, .int .u64 0, .int .u64 a5, .int .u64 0, .int .u64 a6, .int .u64 0, .int .u64 0, .bool false, .slice q0 m0 d0, .slice q1 m1 d1, .int .u64 a2, .slice q3 m3 d3, .bool false, .slice none 0 0, .slice none 0 0, .int .u64 0, .slice none 0 0, .int .u64 0, .int .u64 0]) 36 (0, 0))) := heap_alloc_last w9 _
    clear E8 hb9 hb10 J0b J1 j3
    go_upto_region 28 with (first | (refine wpList_build_to rfl 36 _ rfl _ ?hvE _ (built36 a5 a6 a2 q0 q1 q3 m0 d0 m1 d1 m3 d3) ?_; (case hvE => simp only [List.map_toArray, List.map_cons, List.map_nil]; rfl)) | (refine wpList_store_new rfl 36 _ _ rfl _ _ ?cellsE ?gE ?hxE ?hyE ?hgsE ?hiE ?holdE ?h1E ?_; (case hxE => exact rfl); (case hyE => exact rfl); (case hgsE => simp); (case hiE => exact size36); (case holdE => rfl); (case h1E => simp [Value.oneCell'])))
    have HA10 := E10.out.hA
    have TB10 := TB.out
    go_wp2_with (first | (refine wpList_load_row rfl 34 _ rfl _ rfl _ _ _ _ HA10 Try.underlying34 rfl size34 ?_) | (refine wpList_load_row rfl 36 _ rfl _ rfl _ _ _ _ TB10 Try.underlying36 rfl size36 ?_))
    refine (out_to p0 p1 p3 q0 q1 q3 l0 c0 l1 c1 l3 c3 m0 d0 m1 d1 m3 d3 a2 a4 a2 a5 a6 _ z0 z1 z3 z0.reverse z1.reverse z3 1 E10.out.i0 E10.out.i1 E10.out.i3 T0.out T1.out T3.out K0.out K1.out K0r.out K1r.out (by rw [same_rev, same_refl]; exact out_done _ _ _ _ HCM.out)).mono ?_
    rintro e w11 ⟨rfl, hb11⟩
    have EL : Hid (Below w.heap.size w w11) := (E10.out.step hb11).bel
    clear E10 HA10 TB10 TB T0 T1 T3 hb11
    go_wp2
    go_ret
    exact ⟨rfl, EL.out⟩
end Go.Proofs.Qxb6631326a
