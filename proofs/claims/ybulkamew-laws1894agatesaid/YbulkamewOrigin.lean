import Derived.Test.YbulkamewPool
import Derived.Test.YbulkamewIndex
import Derived.Deep.RegionHeld3
import Derived.BigQuiet
namespace Go.Proofs.Ybulkamew
open Go.ChangeShapes Go.WideShapes Go.ChangeAt Go.RowKit

set_option maxHeartbeats 400000 in
/-- (m).origin(k). -/
theorem origin_any (B bm bs bo ns cs no co k at_ : Nat) (x e : Nat) (w : World)
    (hk : k < ns) (hat : at_ < no) (_hns : ns ≤ 1000) (_hno : no ≤ 1000)
    (hm1 : w.cell? ⟨bm, 1, none⟩ = some (.slice (some ⟨bo, 0, none⟩) no co))
    (hm2 : w.cell? ⟨bm, 2, none⟩ = some (.slice (some ⟨bs, 0, none⟩) ns cs))
    (hs0 : w.cell? ⟨bs, k * 5, none⟩ = some (.int .i64 at_))
    (hs1 : w.cell? ⟨bs, k * 5 + 1, none⟩ = some (.slice none 0 0))
    (hs2 : w.cell? ⟨bs, k * 5 + 2, none⟩ = some (.bool false))
    (hs3 : w.cell? ⟨bs, k * 5 + 3, none⟩ = some (pE B x))
    (hs4 : w.cell? ⟨bs, k * 5 + 4, none⟩ = some (.int .i64 0))
    (ho : w.cell? ⟨bo, at_ * 7 + 1, none⟩ = some (pN B e)) :
    Calls Yba.prog 14 #[.pointer (some ⟨bm, 0, none⟩), .int .i64 k] w fun r w' => r = .returned (.agg #[pE B x, pN B e]) ∧ Below w.heap.size w w' := by
  have lm : bm < w.heap.size := World.block_lt_of_cell? w _ hm1
  have ls : bs < w.heap.size := World.block_lt_of_cell? w _ hs0
  have lo : bo < w.heap.size := World.block_lt_of_cell? w _ ho
  go_enter Yba.func14, Yba.ntmps14
  go_wp2
  have ha0 : (0 : Int) ≤ (at_ : Int) := by omega
  have ha1 : (at_ : Int) < (no : Int) := by omega
  go_region_held3 (fun w' => w'.cell? ⟨w.heap.size + 1, 3, none⟩ = some (pE B x) ∧ w'.cell? ⟨w.heap.size + 1, 0, none⟩ = some (.int .i64 at_) ∧ w'.cell? ⟨bm, 1, none⟩ = some (.slice (some ⟨bo, 0, none⟩) no co) ∧ w'.cell? ⟨bo, at_ * 7 + 1, none⟩ = some (pN B e)) (simp [*, go_sem]) (fail)
  go_wp2
  refine bodyPost_ret (v := .agg #[pE B x, pN B e]) (by simp [results, Yba.results14, go_sem]) rfl ⟨rfl, ?_⟩
  exact (((Below.refl _ _).alloc (Nat.le_refl _) _).alloc (by simp) _).drew
end Go.Proofs.Ybulkamew
