/-
  Laws for a walk over this program's wide structs: built, stored and loaded whole.
-/
import Derived.Test.Qxb6631326aLaw
import Derived.Deep.WholeRow
import Derived.Deep.Cut
namespace Go.Proofs.Qxb6631326a
open Go.RowKit

theorem built34 (p0 p1 p3 : Option Addr) (l0 c0 l1 c1 l3 c3 : Nat) (ci ct : Int) :
    Try.prog.built 34 [(0, .agg #[.slice p0 l0 c0, .slice p1 l1 c1, .int .u64 ci, .slice p3 l3 c3]), (1, .int .u64 ct)] =
      some #[.slice p0 l0 c0, .slice p1 l1 c1, .int .u64 ci, .slice p3 l3 c3, .int .u64 ct, .int .u64 0, .int .u64 0, .int .u64 0, .int .u64 0, .int .i64 0, .pointer none] := by kernel_rfl
theorem built36 (k a mi : Int) (p7 p8 p10 : Option Addr) (l7 c7 l8 c8 l10 c10 : Nat) :
    Try.prog.built 36 [(3, .int .u64 k), (5, .int .u64 a), (9, .agg #[.slice p7 l7 c7, .slice p8 l8 c8, .int .u64 mi, .slice p10 l10 c10])] =
      some #[.int .u64 0, .int .u64 0, .int .u64 0, .int .u64 k, .int .u64 0, .int .u64 a, .int .u64 0, .int .u64 0, .bool false, .slice p7 l7 c7, .slice p8 l8 c8, .int .u64 mi, .slice p10 l10 c10, .bool false, .slice none 0 0, .slice none 0 0, .int .u64 0, .slice none 0 0, .int .u64 0, .int .u64 0] := by kernel_rfl
theorem size34 : (Try.prog.info? 34).map (·.size) = some 11 := by kernel_rfl
theorem size36 : (Try.prog.info? 36).map (·.size) = some 20 := by kernel_rfl

/-- a struct literal, its value laid by one closed fact -/
theorem wpList_build_to {ops : Array Oper} {rest : List Oper} {o : Oper} {a : Act} {w : World} {Q : Exit → Act → World → Prop} (hg : o.guard = none) (t : TypeId) (parts : Array (Nat × Operand)) (ho : o.op = .build t parts)
    (vs : List (Nat × Value)) (hv : (parts.map fun (i, x) => (i, a.eval x)).toList = vs) (cells : Array Value) (hb : Try.prog.built t vs = some cells)
    (h : wpList Try.prog ops Q rest (a.put o.dst (.agg cells)) w) : wpList Try.prog ops Q (o :: rest) a w := by
  refine wpList_build hg t parts ho (by rw [hv, hb]; rfl) ?_
  rw [hv, hb]
  exact h

/-- a whole struct stored into the block that was made last -/
theorem wpList_store_new {ops : Array Oper} {rest : List Oper} {o : Oper} {a : Act} {Q : Exit → Act → World → Prop} (hgd : o.guard = none) (ty : TypeId) (x y : Operand) (ho : o.op = .store ty x y)
    (w0 : World) (old cells : Array Value) (g : Nat) (hx : a.eval x = .pointer (some ⟨g, 0, none⟩)) (hy : a.eval y = .agg cells) (hgs : g = w0.heap.size)
    (hi : (Try.prog.info? ty).map (·.size) = some cells.size) (hold : old.size = cells.size) (h1 : cells.all (·.oneCell') = true)
    (h : wpList Try.prog ops Q rest (a.put o.dst undef) (w0.alloc (.cells cells ty))) : wpList Try.prog ops Q (o :: rest) a (w0.alloc (.cells old ty)) := by
  subst hgs
  refine wpList_store_row hgd ty x y ho w0.heap.size cells hx hy ty old (heap_alloc_last w0 _) hi hold h1 ?_
  rw [World.setRow_alloc_new]
  exact h
end Go.Proofs.Qxb6631326a
