import Derived.Test.YbulkamewPlace
namespace Go.Proofs.Ybulkamew
open Go.ChangeShapes Go.WideShapes Go.ChangeAt Go.RowKit

theorem bel_drewN {B : Nat} {a w : World} (h : Below B a w) (n : Nat) : Below B a (w.drewN n) := h.trans ⟨rfl, rfl, rfl, Nat.le_refl _, fun _ _ => rfl⟩
theorem size51 : (Yba.prog.info? 51).map (fun i => i.size != 0) = some true := by kernel_rfl
theorem neq33_same (a : Addr) (w : World) : (binOp .neq 33 (.pointer (some a)) (.pointer (some a))).run Yba.prog w = .ok (.bool false) w := by
  obtain ⟨i51, h51, s51⟩ := info_of size51
  have h : ∀ d : Nat, (Op.equalIn (d + 1) 33 (.pointer (some a)) (.pointer (some a))).run Yba.prog w = .ok true w := fun d => by
    simp [Op.equalIn, run_underlying Yba.underlying33, sizeOf, typeInfo, h51, run_sameAddr_same]
  simp only [binOp]
  simp [Op.equal, Op.maxDepth, h 9999]

set_option maxHeartbeats 400000 in
/-- (m).keepsOut(d) where both speak of one vertex. -/
theorem keeps_same (B bm bd bs bo bO ns no nO cs co cO : Nat) (A sx se ox oe : Nat → Nat) (w : World) (hns : ns ≤ 1000) (hno0 : no ≤ 1000) (hnO : nO ≤ 1000)
    (H : PlaceIn B bm bd bs bo bO ns no nO cs co cO A sx se ox oe w) (v : Addr) (hm : w.cell? ⟨bm, 0, none⟩ = some (.pointer (some v))) (hd : w.cell? ⟨bd, 0, none⟩ = some (.pointer (some v))) :
    Calls Yba.prog 6 #[.pointer (some ⟨bm, 0, none⟩), .pointer (some ⟨bd, 0, none⟩)] w fun e w' => Below w.heap.size w w' ∧ PlaceOut (placeN sx se ns ox oe nO) nO w e w' := by
  have hq := fun w => neq33_same v w
  go_enter Yba.func6, Yba.ntmps6
  go_wp2_with fail
  go_quiet (fail)
  go_wp2_with fail
  have hz : (w.drewN nq).heap.size = w.heap.size := by simp
  have Hq : PlaceIn B bm bd bs bo bO ns no nO cs co cO A sx se ox oe (w.drewN nq) := H.below (bel_drewN (Below.refl w.heap.size w) nq) (Nat.le_refl _)
  refine (place_any B bm bd bs bo bO ns no nO cs co cO A sx se ox oe (w.drewN nq) hns hno0 hnO Hq).mono ?_
  rintro e w' ⟨hb, ho⟩
  have hb' : Below w.heap.size w w' := (bel_drewN (Below.refl w.heap.size w) nq).trans (by rw [hz] at hb; exact hb)
  have ho' : PlaceOut (placeN sx se ns ox oe nO) nO w e w' := by unfold PlaceOut at ho ⊢; rw [hz] at ho; exact ho
  clear hb ho Hq hz
  cases hr : placeN sx se ns ox oe nO with
  | none =>
    rw [hr] at ho'
    have he : e = .returned (.tuple #[.slice none 0 0, .bool false]) := ho'
    subst he
    have HR := Hid.mk' hr
    clear hr ho'
    go_wp2_with fail
    go_ret2
    refine ⟨hb', ?_⟩
    rw [HR.out]; rfl
  | some acc =>
    rw [hr] at ho'
    obtain ⟨he, ha⟩ : e = .returned (.tuple #[.slice (some ⟨w.heap.size, 0, none⟩) nO nO, .bool true]) ∧ Arr w' w.heap.size nO (fun j => .int .i64 ((acc[j]?.getD 0 : Nat) : Int)) := ho'
    subst he
    have HR := Hid.mk' hr
    clear hr
    go_wp2_with fail
    go_ret2
    refine ⟨hb', ?_⟩
    rw [HR.out]; exact ⟨rfl, ha⟩
end Go.Proofs.Ybulkamew
