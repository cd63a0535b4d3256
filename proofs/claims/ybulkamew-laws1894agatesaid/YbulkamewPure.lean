import Derived.Test.YbulkamewKeeps
namespace Go.Proofs.Ybulkamew
open Go.ChangeShapes Go.WideShapes Go.ChangeAt Go.RowKit

theorem ta66_66 (p : Addr) (w : World) : (Instr.typeAssert (.iface 66 (.pointer (some p))) 30 66 true).run Yba.prog w = .ok (.tuple #[.pointer (some p), .bool true]) w := by kernel_rfl
theorem ta66_101 (p : Addr) (w : World) : (Instr.typeAssert (.iface 66 (.pointer (some p))) 30 101 true).run Yba.prog w = .ok (.tuple #[.pointer none, .bool false]) w := by kernel_rfl
theorem ta66_102 (p : Addr) (w : World) : (Instr.typeAssert (.iface 66 (.pointer (some p))) 30 102 true).run Yba.prog w = .ok (.tuple #[.pointer none, .bool false]) w := by kernel_rfl
theorem ta66_103 (p : Addr) (w : World) : (Instr.typeAssert (.iface 66 (.pointer (some p))) 30 103 true).run Yba.prog w = .ok (.tuple #[.pointer none, .bool false]) w := by kernel_rfl
theorem ta66_93 (p : Addr) (w : World) : (Instr.typeAssert (.iface 66 (.pointer (some p))) 30 93 true).run Yba.prog w = .ok (.tuple #[.pointer none, .bool false]) w := by kernel_rfl
theorem ta66_97 (p : Addr) (w : World) : (Instr.typeAssert (.iface 66 (.pointer (some p))) 30 97 true).run Yba.prog w = .ok (.tuple #[.pointer none, .bool false]) w := by kernel_rfl
theorem ta72_66 (p : Addr) (w : World) : (Instr.typeAssert (.iface 72 (.pointer (some p))) 30 66 true).run Yba.prog w = .ok (.tuple #[.pointer none, .bool false]) w := by kernel_rfl
theorem ta72_101 (p : Addr) (w : World) : (Instr.typeAssert (.iface 72 (.pointer (some p))) 30 101 true).run Yba.prog w = .ok (.tuple #[.pointer none, .bool false]) w := by kernel_rfl
theorem ta72_102 (p : Addr) (w : World) : (Instr.typeAssert (.iface 72 (.pointer (some p))) 30 102 true).run Yba.prog w = .ok (.tuple #[.pointer none, .bool false]) w := by kernel_rfl
theorem ta72_103 (p : Addr) (w : World) : (Instr.typeAssert (.iface 72 (.pointer (some p))) 30 103 true).run Yba.prog w = .ok (.tuple #[.pointer none, .bool false]) w := by kernel_rfl
theorem ta72_93 (p : Addr) (w : World) : (Instr.typeAssert (.iface 72 (.pointer (some p))) 30 93 true).run Yba.prog w = .ok (.tuple #[.pointer none, .bool false]) w := by kernel_rfl
theorem ta72_97 (p : Addr) (w : World) : (Instr.typeAssert (.iface 72 (.pointer (some p))) 30 97 true).run Yba.prog w = .ok (.tuple #[.pointer none, .bool false]) w := by kernel_rfl

set_option maxHeartbeats 400000 in
/-- isReference of one of the pool's expressions. -/
theorem isRef_lo (p : Addr) (w : World) : Calls Yba.prog 19 #[.iface 66 (.pointer (some p))] w fun r w' => r = .returned (.bool true) ∧ w' = w := by
  have h1 := fun w => ta66_66 p w
  have h2 := fun w => ta66_101 p w
  have h3 := fun w => ta66_102 p w
  have h4 := fun w => ta66_103 p w
  go_enter Yba.func19, Yba.ntmps19
  go_wp2
  go_ret
  exact ⟨rfl, rfl⟩
set_option maxHeartbeats 400000 in
/-- The closure: pure = pure && isReference(y). -/
theorem pureStep_lo (p q : Addr) (w : World) (hq : w.cell? q = some (.bool true)) (fq : w.frozen? q = false) : Calls Yba.prog 18 #[.iface 66 (.pointer (some p)), .pointer (some q)] w fun r w' => r = .returned (.tuple #[]) ∧ w' = w.setCell q (.bool true) := by
  go_enter Yba.func18, Yba.ntmps18
  go_wp2_with (go_at_call 19; refine (isRef_lo p _).mono ?_; rintro r w' ⟨rfl, rfl⟩)
  go_end0
  exact ⟨rfl, rfl⟩
set_option maxHeartbeats 400000 in
/-- operands of one of the pool's expressions: it is one operand. -/
theorem operands_lo (p q : Addr) (w : World) (hq : w.cell? q = some (.bool true)) (fq : w.frozen? q = false) : Calls Yba.prog 17 #[.iface 66 (.pointer (some p)), .func (.func 18) #[] #[.pointer (some q)]] w fun r w' => r = .returned (.tuple #[]) ∧ w' = w.setCell q (.bool true) := by
  have h1 := fun w => ta66_93 p w
  have h2 := fun w => ta66_97 p w
  go_enter Yba.func17, Yba.ntmps17
  go_wp2
  refine wp_loop_rounds 1 ?_
  rw [rounds_succ]
  go_wp2_with (go_at_call 18; refine (pureStep_lo p q _ hq fq).mono ?_; rintro r w' ⟨rfl, rfl⟩)
  refine wp_loop_rounds 1 ?_
  rw [rounds_succ]
  go_wp2
  go_end0
  exact ⟨rfl, rfl⟩
set_option maxHeartbeats 400000 in
theorem isPure_lo (p : Addr) (w : World) : Calls Yba.prog 12 #[.iface 66 (.pointer (some p))] w fun r w' => r = .returned (.bool true) ∧ Below w.heap.size w w' := by
  go_enter Yba.func12, Yba.ntmps12
  go_wp2_with (go_at_call 17; refine (operands_lo p ⟨w.heap.size, 0, none⟩ _ (by simp) (by simp)).mono ?_; rintro r w' ⟨rfl, rfl⟩)
  go_ret
  exact ⟨rfl, ((Below.refl _ _).alloc (Nat.le_refl _) _)⟩

set_option maxHeartbeats 400000 in
/-- isReference of one of the pool's expressions. -/
theorem isRef_hi (p : Addr) (w : World) : Calls Yba.prog 19 #[.iface 72 (.pointer (some p))] w fun r w' => r = .returned (.bool false) ∧ w' = w := by
  have h1 := fun w => ta72_66 p w
  have h2 := fun w => ta72_101 p w
  have h3 := fun w => ta72_102 p w
  have h4 := fun w => ta72_103 p w
  go_enter Yba.func19, Yba.ntmps19
  go_wp2
  go_ret
  exact ⟨rfl, rfl⟩
set_option maxHeartbeats 400000 in
/-- The closure: pure = pure && isReference(y). -/
theorem pureStep_hi (p q : Addr) (w : World) (hq : w.cell? q = some (.bool true)) (fq : w.frozen? q = false) : Calls Yba.prog 18 #[.iface 72 (.pointer (some p)), .pointer (some q)] w fun r w' => r = .returned (.tuple #[]) ∧ w' = w.setCell q (.bool false) := by
  go_enter Yba.func18, Yba.ntmps18
  go_wp2_with (go_at_call 19; refine (isRef_hi p _).mono ?_; rintro r w' ⟨rfl, rfl⟩)
  go_end0
  exact ⟨rfl, rfl⟩
set_option maxHeartbeats 400000 in
/-- operands of one of the pool's expressions: it is one operand. -/
theorem operands_hi (p q : Addr) (w : World) (hq : w.cell? q = some (.bool true)) (fq : w.frozen? q = false) : Calls Yba.prog 17 #[.iface 72 (.pointer (some p)), .func (.func 18) #[] #[.pointer (some q)]] w fun r w' => r = .returned (.tuple #[]) ∧ w' = w.setCell q (.bool false) := by
  have h1 := fun w => ta72_93 p w
  have h2 := fun w => ta72_97 p w
  go_enter Yba.func17, Yba.ntmps17
  go_wp2
  refine wp_loop_rounds 1 ?_
  rw [rounds_succ]
  go_wp2_with (go_at_call 18; refine (pureStep_hi p q _ hq fq).mono ?_; rintro r w' ⟨rfl, rfl⟩)
  refine wp_loop_rounds 1 ?_
  rw [rounds_succ]
  go_wp2
  go_end0
  exact ⟨rfl, rfl⟩
set_option maxHeartbeats 400000 in
theorem isPure_hi (p : Addr) (w : World) : Calls Yba.prog 12 #[.iface 72 (.pointer (some p))] w fun r w' => r = .returned (.bool false) ∧ Below w.heap.size w w' := by
  go_enter Yba.func12, Yba.ntmps12
  go_wp2_with (go_at_call 17; refine (operands_hi p ⟨w.heap.size, 0, none⟩ _ (by simp) (by simp)).mono ?_; rintro r w' ⟨rfl, rfl⟩)
  go_ret
  exact ⟨rfl, ((Below.refl _ _).alloc (Nat.le_refl _) _)⟩

/-- isPureReference of the pool's i-th expression. -/
theorem isPure (B i : Nat) (w : World) : Calls Yba.prog 12 #[pE B i] w fun r w' => r = .returned (.bool (decide (i < 2))) ∧ Below w.heap.size w w' := by
  by_cases h : i < 2
  · simp only [pE, eT_lo h, h, decide_true]; exact isPure_lo _ w
  · simp only [pE, eT_hi h, h, decide_false]; exact isPure_hi _ w
end Go.Proofs.Ybulkamew
