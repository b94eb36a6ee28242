/-
  The second law of the seat, walked.
-/
import Derived.Test.Qxb6631326aWide
import Derived.Test.Qxb6631326aPlus
namespace Go.Proofs.Qxb6631326a
open Go.RowKit

/-- what stands from the law's two first boxes on -/
structure Env2 (w : World) (B0 B1 : Nat) (A S : Array Value) (v0 v1 v3 : Value) (z0 z1 z3 : List Int) (X : World) : Prop where
  hA : X.heap[B0]? = some (.cells A 34 (0, 0))
  hS : X.heap[B1]? = some (.cells S 36 (0, 0))
  b0 : B0 < X.heap.size
  b1 : B1 < X.heap.size
  i0 : Ints X.heap.size X v0 z0
  i1 : Ints X.heap.size X v1 z1
  i3 : Byts X.heap.size X v3 z3
  bel : Below w.heap.size w X
theorem Env2.step {w : World} {B0 B1 : Nat} {A S : Array Value} {v0 v1 v3 : Value} {z0 z1 z3 : List Int} {X X' : World} (h : Env2 w B0 B1 A S v0 v1 v3 z0 z1 z3 X) (hb : Below X.heap.size X X') : Env2 w B0 B1 A S v0 v1 v3 z0 z1 z3 X' where
  hA := (hb.block B0 h.b0).trans h.hA
  hS := (hb.block B1 h.b1).trans h.hS
  b0 := Nat.lt_of_lt_of_le h.b0 hb.size
  b1 := Nat.lt_of_lt_of_le h.b1 hb.size
  i0 := (h.i0.below hb).mono hb.size
  i1 := (h.i1.below hb).mono hb.size
  i3 := (h.i3.below hb).mono hb.size
  bel := h.bel.trans (hb.mono h.bel.size)
/-- and the three rivals' boxes and lists -/
structure Env3 (w : World) (B0 B1 B2 B3 B4 : Nat) (A S S1 S2 S3 : Array Value) (v0 v1 v3 u0 u1 u3 : Value) (z0 z1 z3 y0 y1 y3 : List Int) (X : World) : Prop where
  e2 : Env2 w B0 B1 A S v0 v1 v3 z0 z1 z3 X
  h2 : X.heap[B2]? = some (.cells S1 36 (0, 0))
  h3 : X.heap[B3]? = some (.cells S2 36 (0, 0))
  h4 : X.heap[B4]? = some (.cells S3 36 (0, 0))
  b2 : B2 < X.heap.size
  b3 : B3 < X.heap.size
  b4 : B4 < X.heap.size
  j0 : Ints X.heap.size X u0 y0
  j1 : Ints X.heap.size X u1 y1
  j3 : Byts X.heap.size X u3 y3
theorem Env3.step {w : World} {B0 B1 B2 B3 B4 : Nat} {A S S1 S2 S3 : Array Value} {v0 v1 v3 u0 u1 u3 : Value} {z0 z1 z3 y0 y1 y3 : List Int} {X X' : World} (h : Env3 w B0 B1 B2 B3 B4 A S S1 S2 S3 v0 v1 v3 u0 u1 u3 z0 z1 z3 y0 y1 y3 X) (hb : Below X.heap.size X X') :
    Env3 w B0 B1 B2 B3 B4 A S S1 S2 S3 v0 v1 v3 u0 u1 u3 z0 z1 z3 y0 y1 y3 X' where
  e2 := h.e2.step hb
  h2 := (hb.block B2 h.b2).trans h.h2
  h3 := (hb.block B3 h.b3).trans h.h3
  h4 := (hb.block B4 h.b4).trans h.h4
  b2 := Nat.lt_of_lt_of_le h.b2 hb.size
  b3 := Nat.lt_of_lt_of_le h.b3 hb.size
  b4 := Nat.lt_of_lt_of_le h.b4 hb.size
  j0 := (h.j0.below hb).mono hb.size
  j1 := (h.j1.below hb).mono hb.size
  j3 := (h.j3.below hb).mono hb.size
theorem rv_out_to (pcv pcn pcx pmv pmn pmx : Option Addr) (lcv ccv lcn ccn lcx ccx lmv cmv lmn cmn lmx cmx : Nat) (ci ct mi k a : Int) (w : World) (vc nc xc vm nm xm : List Int) (r : Int)
    (hvc : Ints w.heap.size w (.slice pcv lcv ccv) vc) (hnc : Ints w.heap.size w (.slice pcn lcn ccn) nc) (hxc : Byts w.heap.size w (.slice pcx lcx ccx) xc)
    (hvm : Ints w.heap.size w (.slice pmv lmv cmv) vm) (hnm : Ints w.heap.size w (.slice pmn lmn cmn) nm) (hxm : Byts w.heap.size w (.slice pmx lmx cmx) xm)
    (l1 : vc.length ≤ 1000000) (l2 : nc.length ≤ 1000000) (l3 : vm.length ≤ 1000000) (l4 : nm.length ≤ 1000000) (hr : outC k a ci ct mi (sameM vm nm xm vc nc xc) = r) :
    Calls Try.prog 8 #[chg (.slice pcv lcv ccv) (.slice pcn lcn ccn) (.slice pcx lcx ccx) ci ct, sta (.slice pmv lmv cmv) (.slice pmn lmn cmn) (.slice pmx lmx cmx) mi k a] w fun e w' =>
      e = .returned (.int .u8 r) ∧ Below w.heap.size w w' := by
  have h := out_any pcv pcn pcx pmv pmn pmx lcv ccv lcn ccn lcx ccx lmv cmv lmn cmn lmx cmx ci ct mi k a w vc nc xc vm nm xm hvc hnc hxc hvm hnm hxm l1 l2 l3 l4
  rw [hr] at h
  exact h
theorem rv_below_alloc (X : World) (o : Obj) : Below X.heap.size X (X.alloc o) := (Below.refl _ X).alloc (Nat.le_refl _) o
theorem rv_same_refl (v n x : List Int) : sameM v n x v n x = true := by unfold sameM; rw [sameB_refl, sameB_refl, sameB_refl]; rfl
theorem rv_v (v n x : List Int) (y : Int) : sameM (v ++ [y]) n x v n x = false := by
  unfold sameM; rw [sameB_len _ _ (by rw [srt_length, srt_length]; simp)]; rfl
theorem rv_n (v n x : List Int) (y : Int) : sameM v (n ++ [y]) x v n x = false := by
  unfold sameM; rw [sameB_len (srt (n ++ [y])) _ (by rw [srt_length, srt_length]; simp), Bool.and_false]; rfl
theorem rv_x (v n x : List Int) (y : Int) : sameM v n (x ++ [y]) v n x = false := by
  unfold sameM; rw [sameB_len (x ++ [y]) _ (by simp), Bool.and_false]
theorem rv_over (k a ci ct mi : Int) (s : Bool) (h : ci ≤ k) (h2 : ci < mi) : outC k a ci ct mi s = 3 := by unfold outC; rw [if_neg (by omega), if_neg (by omega), if_pos h2]
theorem rv_under (k a ci ct mi : Int) (s : Bool) (h : ci ≤ k) (h2 : mi < ci) : outC k a ci ct mi s = 2 := by unfold outC; rw [if_neg (by omega), if_neg (by omega), if_neg (by omega)]
theorem rv_here (k a ci ct mi : Int) (h : ci ≤ k) (h2 : mi = ci) : outC k a ci ct mi false = 2 := by unfold outC; rw [if_neg (by omega), if_neg (by simp), if_neg (by omega)]
theorem rv_done (k a ci ct mi : Int) (h : ci ≤ k) (h2 : mi = ci) : outC k a ci ct mi true = 1 := by unfold outC; rw [if_neg (by omega), if_pos ⟨h, h2, rfl⟩]

end Go.Proofs.Qxb6631326a
