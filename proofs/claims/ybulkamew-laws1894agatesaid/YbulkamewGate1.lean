import Derived.Test.YbulkamewTakes
namespace Go.Proofs.Ybulkamew
open Go.ChangeShapes Go.WideShapes Go.ChangeAt Go.RowKit

set_option maxHeartbeats 400000 in
/-- (m).place(d) where d has no origins: an empty placement. -/
theorem place_none (bm bd : Nat) (w : World) (hd : w.cell? ⟨bd, 2, none⟩ = some (.slice none 0 0)) :
    Calls Yba.prog 9 #[.pointer (some ⟨bm, 0, none⟩), .pointer (some ⟨bd, 0, none⟩)] w fun r w' => r = .returned (.tuple #[.slice (some ⟨w.heap.size, 0, none⟩) 0 0, .bool true]) ∧ Below w.heap.size w w' := by
  have ld : bd < w.heap.size := World.block_lt_of_cell? w _ hd
  have hmk : ∀ w, (Instr.makeSlice 27 (.int .i64 0) (.int .i64 0)).run Yba.prog w = .ok (.slice (some ⟨w.heap.size, 0, none⟩) 0 0) (w.alloc (.cells (madeCells #[.int .i64 0] 0) 3)) := fun w => mk27 0 0 (Nat.le_refl _) (by omega) w
  go_enter Yba.func9, Yba.ntmps9
  go_wp2
  refine wp_loop_rounds 1 ?_
  rw [rounds_succ]
  go_wp2
  go_ret2
  exact ⟨rfl, (Below.refl _ _).alloc (Nat.le_refl _) _⟩

theorem neq33_other (a b : Nat) (h : a ≠ b) (w : World) {ca cb : Array Value} {ta tb : TypeId} (ha : w.heap[a]? = some (.cells ca ta (0, 0))) (hb : w.heap[b]? = some (.cells cb tb (0, 0))) :
    (binOp .neq 33 (.pointer (some ⟨a, 0, none⟩)) (.pointer (some ⟨b, 0, none⟩))).run Yba.prog w = .ok (.bool true) w := by
  obtain ⟨i51, h51, s51⟩ := info_of size51
  have hsz : i51.size ≠ 0 := by simpa using s51
  have h : ∀ d : Nat, (Op.equalIn (d + 1) 33 (.pointer (some ⟨a, 0, none⟩)) (.pointer (some ⟨b, 0, none⟩))).run Yba.prog w = .ok false w := fun d => by
    simp [Op.equalIn, run_underlying Yba.underlying33, sizeOf, typeInfo, h51, hsz, run_sameAddr_other w (addr_ne h) ha hb]
  simp only [binOp]
  simp [Op.equal, Op.maxDepth, h 9999]

/-- What keepsOut hands back where d has no origins. -/
def GateOut (T : Bool) (e : Ending) : Prop := if T then ∃ h : Nat, e = .returned (.tuple #[.slice (some ⟨h, 0, none⟩) 0 0, .bool true]) else e = .returned (.tuple #[.slice none 0 0, .bool false])

set_option maxHeartbeats 1600000 in
/-- (m).keepsOut(d), d of another vertex, without origins. -/
theorem keeps_gate (bm bd vv ww : Nat) (T : Bool) (w : World) (hne : ww ≠ vv) {ca cb : Array Value} {ta tb : TypeId} (ba : w.heap[ww]? = some (.cells ca ta (0, 0))) (bb : w.heap[vv]? = some (.cells cb tb (0, 0)))
    (hm : w.cell? ⟨bm, 0, none⟩ = some (.pointer (some ⟨vv, 0, none⟩))) (hd : w.cell? ⟨bd, 0, none⟩ = some (.pointer (some ⟨ww, 0, none⟩))) (hd2 : w.cell? ⟨bd, 2, none⟩ = some (.slice none 0 0))
    (HT : ∀ w', Below w.heap.size w w' → Calls Yba.prog 8 #[.pointer (some ⟨vv, 0, none⟩), .pointer (some ⟨ww, 0, none⟩)] w' fun r w'' => r = .returned (.bool T) ∧ Below w'.heap.size w' w'') :
    Calls Yba.prog 6 #[.pointer (some ⟨bm, 0, none⟩), .pointer (some ⟨bd, 0, none⟩)] w fun e w' => GateOut T e ∧ Below w.heap.size w w' := by
  have HM : ∀ w', Below w.heap.size w w' → w'.cell? ⟨bm, 0, none⟩ = some (.pointer (some ⟨vv, 0, none⟩)) := fun w' hb => (hb.cell (p := ⟨bm, 0, none⟩) (World.block_lt_of_cell? w _ hm)).trans hm
  have HD : ∀ w', Below w.heap.size w w' → w'.cell? ⟨bd, 0, none⟩ = some (.pointer (some ⟨ww, 0, none⟩)) := fun w' hb => (hb.cell (p := ⟨bd, 0, none⟩) (World.block_lt_of_cell? w _ hd)).trans hd
  have HD2 : ∀ w', Below w.heap.size w w' → w'.cell? ⟨bd, 2, none⟩ = some (.slice none 0 0) := fun w' hb => (hb.cell (p := ⟨bd, 2, none⟩) (World.block_lt_of_cell? w _ hd2)).trans hd2
  have HNQ : ∀ w', Below w.heap.size w w' → (binOp .neq 33 (.pointer (some ⟨ww, 0, none⟩)) (.pointer (some ⟨vv, 0, none⟩))).run Yba.prog w' = .ok (.bool true) w' := fun w' hb =>
    neq33_other ww vv hne w' ((hb.block ww (Array.getElem?_eq_some_iff.1 ba).1).trans ba) ((hb.block vv (Array.getElem?_eq_some_iff.1 bb).1).trans bb)
  clear hm hd hd2 ba bb
  go_enter Yba.func6, Yba.ntmps6
  go_wp2_with fail
  refine region_kind (fun w' => Below w.heap.size w w') (by kernel_rfl) (by kernel_rfl) (Below.refl _ _).drew ?_
  refine wpQuiet_step (fun K hK => ?_)
  go_simp
  refine ⟨_, fun _ _ => rfl, hK _ ?_⟩
  clear hK K
  refine wpQuiet_step (fun K hK => ?_)
  go_simp
  refine ⟨_, fun _ _ => rfl, hK _ ?_⟩
  clear hK K
  refine wpQuiet_step (fun K hK => ?_)
  go_simp
  refine ⟨_, fun _ _ => rfl, hK _ ?_⟩
  clear hK K
  refine wpQuiet_step (fun K hK => ?_)
  rw [if_pos (by rfl)]
  refine ⟨.pointer (some ⟨ww, 0, none⟩), fun w' hI => ?_, hK _ ?_⟩
  · have z0 := HD w' hI
    clear hK K
    go_simp
  clear hK K
  refine wpQuiet_step (fun K hK => ?_)
  go_simp
  refine ⟨_, fun _ _ => rfl, hK _ ?_⟩
  clear hK K
  refine wpQuiet_step (fun K hK => ?_)
  go_simp
  refine ⟨_, fun _ _ => rfl, hK _ ?_⟩
  clear hK K
  refine wpQuiet_step (fun K hK => ?_)
  go_simp
  refine ⟨_, fun _ _ => rfl, hK _ ?_⟩
  clear hK K
  refine wpQuiet_step (fun K hK => ?_)
  rw [if_pos (by rfl)]
  refine ⟨.pointer (some ⟨vv, 0, none⟩), fun w' hI => ?_, hK _ ?_⟩
  · have z0 := HM w' hI
    clear hK K
    go_simp
  clear hK K
  refine wpQuiet_step (fun K hK => ?_)
  rw [if_pos (by rfl)]
  refine ⟨.bool true, fun w' hI => ?_, hK _ ?_⟩
  · have z0 := HNQ w' hI
    clear hK K
    go_simp
  clear hK K
  refine wpQuiet_step (fun K hK => ?_)
  go_simp
  refine ⟨_, fun _ _ => rfl, hK _ ?_⟩
  clear hK K
  refine wpQuiet_step (fun K hK => ?_)
  go_simp
  refine ⟨_, fun _ _ => rfl, hK _ ?_⟩
  clear hK K
  refine wpQuiet_step (fun K hK => ?_)
  go_simp
  refine ⟨_, fun _ _ => rfl, hK _ ?_⟩
  clear hK K
  refine wpQuiet_step (fun K hK => ?_)
  go_simp
  refine ⟨_, fun _ _ => rfl, hK _ ?_⟩
  clear hK K
  refine wpQuiet_step (fun K hK => ?_)
  rw [if_pos (by rfl)]
  refine ⟨.pointer (some ⟨vv, 0, none⟩), fun w' hI => ?_, hK _ ?_⟩
  · have z0 := HM w' hI
    clear hK K
    go_simp
  clear hK K
  refine wpQuiet_step (fun K hK => ?_)
  go_simp
  refine ⟨_, fun _ _ => rfl, hK _ ?_⟩
  clear hK K
  refine wpQuiet_step (fun K hK => ?_)
  go_simp
  refine ⟨_, fun _ _ => rfl, hK _ ?_⟩
  clear hK K
  refine wpQuiet_step (fun K hK => ?_)
  go_simp
  refine ⟨_, fun _ _ => rfl, hK _ ?_⟩
  clear hK K
  refine wpQuiet_step (fun K hK => ?_)
  rw [if_pos (by rfl)]
  refine ⟨.pointer (some ⟨ww, 0, none⟩), fun w' hI => ?_, hK _ ?_⟩
  · have z0 := HD w' hI
    clear hK K
    go_simp
  clear hK K
  refine wpQuiet_step (fun K hK => ?_)
  go_simp
  refine ⟨.bool T, fun w' hI => ?_, hK _ ?_⟩
  · refine (HT w' hI).mono ?_
    rintro e w3 ⟨rfl, hb3⟩
    exact ⟨rfl, hI.trans (hb3.mono hI.size)⟩
  clear hK K
  refine wpQuiet_step (fun K hK => ?_)
  go_simp
  refine ⟨_, fun _ _ => rfl, hK _ ?_⟩
  clear hK K
  refine wpQuiet_step (fun K hK => ?_)
  go_simp
  refine ⟨_, fun _ _ => rfl, hK _ ?_⟩
  clear hK K
  refine wpQuiet_nil ?_
  intro w3 hI3
  cases T with
  | true =>
    go_wp2_with fail
    refine (place_none bm bd w3 (HD2 w3 hI3)).mono ?_
    rintro e w4 ⟨rfl, hb4⟩
    clear HT HM HD HD2 HNQ
    go_wp2_with fail
    go_ret2
    exact ⟨⟨_, rfl⟩, hI3.trans (hb4.mono hI3.size)⟩
  | false =>
    clear HT HM HD HD2 HNQ
    go_wp2_with fail
    go_ret2
    exact ⟨rfl, hI3⟩
end Go.Proofs.Ybulkamew
