import Derived.Test.YbulkamewProg
import Derived.WalkKit
import Derived.ProofKit
namespace Go.Proofs.Ybulkamew
open Go.ChangeShapes Go.WideShapes Go.ChangeAt Go.RowKit

/-- The type of the pool's i-th expression. -/
def eT (i : Nat) : TypeId := if i < 2 then 66 else 72
/-- The i-th expression of the pool that was made when the heap had B blocks. -/
abbrev pE (B i : Nat) : Value := .iface (eT i) (.pointer (some ⟨B + i, 0, none⟩))
/-- The j-th scope of that pool. -/
abbrev pN (B j : Nat) : Value := .pointer (some ⟨B + 5 + j, 0, none⟩)
/-- The two slices of the pool lie in blocks B + 4 and B + 7. -/
structure Pool (B : Nat) (w : World) : Prop where
  e : ∀ i, i < 4 → w.cell? ⟨B + 4, i, none⟩ = some (pE B i)
  n : ∀ j, j < 2 → w.cell? ⟨B + 7, j, none⟩ = some (pN B j)
  size : B + 8 ≤ w.heap.size
  x : ∀ i, i < 4 → ∃ C t, w.heap[B + i]? = some (.cells C t (0, 0))
  s : ∀ j, j < 2 → ∃ C t, w.heap[B + 5 + j]? = some (.cells C t (0, 0))

theorem Pool.below {B C : Nat} {w w' : World} (h : Pool B w) (hb : Below C w w') (hC : B + 8 ≤ C) : Pool B w' :=
  ⟨fun i hi => (hb.cell (p := ⟨B + 4, i, none⟩) (by show B + 4 < C; omega)).trans (h.e i hi),
   fun j hj => (hb.cell (p := ⟨B + 7, j, none⟩) (by show B + 7 < C; omega)).trans (h.n j hj),
   Nat.le_trans h.size hb.size,
   fun i hi => by rw [hb.block _ (by omega)]; exact h.x i hi,
   fun j hj => by rw [hb.block _ (by omega)]; exact h.s j hj⟩
theorem Pool.drew {B : Nat} {w : World} (h : Pool B w) : Pool B w.drew := ⟨h.e, h.n, h.size, h.x, h.s⟩
theorem heap_alloc_past (w : World) (o : Obj) (n : Nat) (h : n < w.heap.size) : (w.alloc o).heap[n]? = w.heap[n]? := Below.heap_alloc w o n h
theorem heap_alloc_at (w : World) (o : Obj) (n : Nat) (h : n = w.heap.size) : (w.alloc o).heap[n]? = some o := by
  subst h; show (w.heap.push o)[w.heap.size]? = _; simp

theorem heap8 (w : World) (o0 o1 o2 o3 o4 o5 o6 o7 : Obj) : ((((((((w.alloc o0).alloc o1).alloc o2).alloc o3).alloc o4).alloc o5).alloc o6).alloc o7).heap[w.heap.size + 0]? = some o0 ∧ ((((((((w.alloc o0).alloc o1).alloc o2).alloc o3).alloc o4).alloc o5).alloc o6).alloc o7).heap[w.heap.size + 1]? = some o1 ∧ ((((((((w.alloc o0).alloc o1).alloc o2).alloc o3).alloc o4).alloc o5).alloc o6).alloc o7).heap[w.heap.size + 2]? = some o2 ∧ ((((((((w.alloc o0).alloc o1).alloc o2).alloc o3).alloc o4).alloc o5).alloc o6).alloc o7).heap[w.heap.size + 3]? = some o3 ∧ ((((((((w.alloc o0).alloc o1).alloc o2).alloc o3).alloc o4).alloc o5).alloc o6).alloc o7).heap[w.heap.size + 5]? = some o5 ∧ ((((((((w.alloc o0).alloc o1).alloc o2).alloc o3).alloc o4).alloc o5).alloc o6).alloc o7).heap[w.heap.size + 6]? = some o6 := by
  show ((((((((w.heap.push o0).push o1).push o2).push o3).push o4).push o5).push o6).push o7)[w.heap.size + 0]? = some o0 ∧ ((((((((w.heap.push o0).push o1).push o2).push o3).push o4).push o5).push o6).push o7)[w.heap.size + 1]? = some o1 ∧ ((((((((w.heap.push o0).push o1).push o2).push o3).push o4).push o5).push o6).push o7)[w.heap.size + 2]? = some o2 ∧ ((((((((w.heap.push o0).push o1).push o2).push o3).push o4).push o5).push o6).push o7)[w.heap.size + 3]? = some o3 ∧ ((((((((w.heap.push o0).push o1).push o2).push o3).push o4).push o5).push o6).push o7)[w.heap.size + 5]? = some o5 ∧ ((((((((w.heap.push o0).push o1).push o2).push o3).push o4).push o5).push o6).push o7)[w.heap.size + 6]? = some o6
  refine ⟨?_, ?_, ?_, ?_, ?_, ?_⟩ <;> (simp only [Array.getElem?_push, Array.size_push]; repeat (first | rw [if_pos (by omega)] | rw [if_neg (by omega)] | rw [if_pos True.intro]))

set_option maxHeartbeats 400000 in
theorem pool_any (w : World) :
    Calls Yba.prog 5 #[] w fun e w' => e = .returned (.tuple #[.slice (some ⟨w.heap.size + 4, 0, none⟩) 4 4, .slice (some ⟨w.heap.size + 7, 0, none⟩) 2 2]) ∧ Below w.heap.size w w' ∧ Pool w.heap.size w' ∧ w'.heap.size = w.heap.size + 8 := by
  go_enter Yba.func5, Yba.ntmps5
  go_wp2
  go_ret2
  refine ⟨rfl, ?_, ⟨?_, ?_, ?_, ?_, ?_⟩, ?_⟩
  · repeat (first | exact Below.refl _ _ | refine Below.alloc ?_ (by simp; omega) _ | refine Below.alloc ?_ (by simp) _)
  · intro i hi
    match i, hi with
    | 0, _ => simp [eT, World.cell?_alloc_past, World.cell?_alloc_at]
    | 1, _ => simp [eT, World.cell?_alloc_past, World.cell?_alloc_at]
    | 2, _ => simp [eT, World.cell?_alloc_past, World.cell?_alloc_at]
    | 3, _ => simp [eT, World.cell?_alloc_past, World.cell?_alloc_at]
  · intro i hi
    match i, hi with
    | 0, _ => simp [World.cell?_alloc_at]
    | 1, _ => simp [World.cell?_alloc_at]
  · simp
  · intro i hi
    match i, hi with
    | 0, _ => exact ⟨_, _, (heap8 _ _ _ _ _ _ _ _ _).1⟩
    | 1, _ => exact ⟨_, _, (heap8 _ _ _ _ _ _ _ _ _).2.1⟩
    | 2, _ => exact ⟨_, _, (heap8 _ _ _ _ _ _ _ _ _).2.2.1⟩
    | 3, _ => exact ⟨_, _, (heap8 _ _ _ _ _ _ _ _ _).2.2.2.1⟩
  · intro i hi
    match i, hi with
    | 0, _ => exact ⟨_, _, (heap8 _ _ _ _ _ _ _ _ _).2.2.2.2.1⟩
    | 1, _ => exact ⟨_, _, (heap8 _ _ _ _ _ _ _ _ _).2.2.2.2.2⟩
  · simp
end Go.Proofs.Ybulkamew
