import Derived.Test.YbulkamgmProg
import Derived.WalkKit
import Derived.ProofKit
namespace Go.Proofs.Ybulkamgm
open Go.ChangeShapes Go.WideShapes Go.ChangeAt Go.RowKit

/-- The cells of a runeClasses of n classes, all else zero. -/
def C47 (n : Int) : Array Value := #[.int .i64 n] ++ Array.replicate 128 (.int .u32 0) ++ #[.slice none 0 0, .slice none 0 0, .int .u32 0]
theorem build47 (n : Int) (w : World) : (Instr.build 47 #[(0, .int .i64 n)]).run Yba.prog w = .ok (.agg (C47 n)) w := by kernel_rfl
/-- The cells of a dfa of n classes, all else zero. -/
def C51 (n : Int) : Array Value := #[.slice none 0 0, .int .u32 0] ++ C47 n ++ #[.slice none 0 0, .int .i64 0, .int .i64 0, .int .u32 0, .slice none 0 0, .bool false, .int .i64 0]
theorem build51 (n : Int) (w : World) : (Instr.build 51 #[(2, .agg (C47 n))]).run Yba.prog w = .ok (.agg (C51 n)) w := by kernel_rfl
theorem box51 (n : Int) (w : World) : (Instr.box 51 (.agg (C51 n))).run Yba.prog w = .ok (.pointer (some ⟨w.heap.size, 0, none⟩)) (w.alloc (.cells (C51 n) 51)) := by kernel_rfl
theorem C51_2 (n : Int) : (C51 n)[2]? = some (.int .i64 n) := by kernel_rfl

/-- An operation whose run is known. -/
theorem wpList_run {P : Program} {ops : Array Oper} {rest : List Oper} {op : Oper} {a : Act} {w w' : World} {Q : Exit → Act → World → Prop} {v : Value} (hg : op.guard = none) (hrun : (execOp a.eval op).run P w = .ok (.value v) w')
    (h : wpList P ops Q rest (a.put op.dst v) w') : wpList P ops Q (op :: rest) a w :=
  wpList_plain hg fun K hK => by
    unfold Oper.wp
    rw [hrun]
    exact hK _ _ h

set_option maxHeartbeats 400000 in
/-- zzs1897bstates(n): a dfaStates over a dfa of n classes. -/
theorem states_any (n : Int) (w : World) : Calls Yba.prog 7 #[.int .i64 n] w fun e w' =>
    e = .returned (.pointer (some ⟨w.heap.size + 1, 0, none⟩)) ∧ ∃ C : Array Value, w' = (w.alloc (.cells (C51 n) 51)).alloc (.cells C 57) ∧ C[0]? = some (.pointer (some ⟨w.heap.size, 0, none⟩)) := by
  go_enter Yba.func7, Yba.ntmps7
  go_wp2_with (first
    | (refine wpList_run (op := ⟨_, .build 47 _, _, _, _, _⟩) (v := .agg (C47 n)) (w' := w) rfl (by kernel_rfl) ?_)
    | (refine wpList_run (op := ⟨_, .build 51 _, _, _, _, _⟩) (v := .agg (C51 n)) (w' := w) rfl (by kernel_rfl) ?_)
    | (refine wpList_run (op := ⟨_, .box 51 _, _, _, _, _⟩) (v := .pointer (some ⟨w.heap.size, 0, none⟩)) (w' := w.alloc (.cells (C51 n) 51)) rfl (by kernel_rfl) ?_))
  go_ret
  exact ⟨rfl, _, rfl, rfl⟩
end Go.Proofs.Ybulkamgm
