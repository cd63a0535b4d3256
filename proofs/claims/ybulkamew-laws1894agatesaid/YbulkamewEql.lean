import Derived.Test.YbulkamewPool
import Derived.LaidEql
import Derived.LaidEqlPtr
namespace Go.Proofs.Ybulkamew
open Go.ChangeShapes Go.WideShapes Go.ChangeAt Go.RowKit

theorem comp66 : (Yba.prog.info? 66).map (·.comparable) = some true := by kernel_rfl
theorem comp72 : (Yba.prog.info? 72).map (·.comparable) = some true := by kernel_rfl
theorem size71 : (Yba.prog.info? 71).map (·.size) = some 3 := by kernel_rfl
theorem size75 : (Yba.prog.info? 75).map (·.size) = some 4 := by kernel_rfl
theorem size82 : (Yba.prog.info? 82).map (·.size) = some 6 := by kernel_rfl
theorem info_of {α : Type} {P : Program} {t : TypeId} {f : TypeInfo → α} {v : α} (h : (P.info? t).map f = some v) : ∃ i, P.info? t = some i ∧ f i = v := by
  cases hq : P.info? t with
  | none => simp [hq] at h
  | some i => exact ⟨i, rfl, by simpa [hq] using h⟩
theorem eT_lo {i : Nat} (h : i < 2) : eT i = 66 := by simp [eT, h]
theorem eT_hi {i : Nat} (h : ¬ i < 2) : eT i = 72 := by simp [eT, h]
theorem addr_ne {a b : Nat} (h : a ≠ b) : (⟨a, 0, none⟩ : Addr) ≠ ⟨b, 0, none⟩ := fun e => h (by cases e; rfl)

/-- Two expressions of one pool are the same interface value just where they have one number. -/
theorem eqE (d B x y : Nat) (hx : x < 4) (hy : y < 4) (w : World) (hP : Pool B w) : (Op.equalIn (d + 2) 30 (pE B x) (pE B y)).run Yba.prog w = .ok (decide (x = y)) w := by
  obtain ⟨i66, h66, c66⟩ := info_of comp66
  obtain ⟨i72, h72, c72⟩ := info_of comp72
  obtain ⟨i71, h71, s71⟩ := info_of size71
  obtain ⟨i75, h75, s75⟩ := info_of size75
  obtain ⟨Cx, tx, bx⟩ := hP.x x hx
  obtain ⟨Cy, ty, by_⟩ := hP.x y hy
  by_cases e : x = y
  · subst e
    simp only [decide_true]
    by_cases l : x < 2
    · simp only [pE, eT_lo l]
      exact run_equalIn_iface_ptr_same w d _ Yba.underlying30 Yba.underlying66 h66 c66 h71
    · simp only [pE, eT_hi l]
      exact run_equalIn_iface_ptr_same w d _ Yba.underlying30 Yba.underlying72 h72 c72 h75
  · simp only [e, decide_false]
    by_cases l : x < 2 <;> by_cases m : y < 2
    · simp only [pE, eT_lo l, eT_lo m]
      exact run_equalIn_iface_ptr_other w d Yba.underlying30 Yba.underlying66 h66 c66 h71 (by omega) (addr_ne (by omega)) bx by_
    · simp [pE, eT_lo l, eT_hi m, Op.equalIn, run_underlying Yba.underlying30]
    · simp [pE, eT_hi l, eT_lo m, Op.equalIn, run_underlying Yba.underlying30]
    · simp only [pE, eT_hi l, eT_hi m]
      exact run_equalIn_iface_ptr_other w d Yba.underlying30 Yba.underlying72 h72 c72 h75 (by omega) (addr_ne (by omega)) bx by_

theorem eqN (d B e f : Nat) (he : e < 2) (hf : f < 2) (w : World) (hP : Pool B w) : (Op.equalIn (d + 1) 31 (pN B e) (pN B f)).run Yba.prog w = .ok (decide (e = f)) w := by
  obtain ⟨i82, h82, s82⟩ := info_of size82
  obtain ⟨Cx, tx, bx⟩ := hP.s e he
  obtain ⟨Cy, ty, by_⟩ := hP.s f hf
  have hsz : i82.size ≠ 0 := by omega
  by_cases q : e = f
  · subst q
    simp [Op.equalIn, run_underlying Yba.underlying31, sizeOf, typeInfo, h82, run_sameAddr_same]
  · simp only [q, decide_false]
    simp [Op.equalIn, run_underlying Yba.underlying31, sizeOf, typeInfo, h82, hsz, run_sameAddr_other w (addr_ne (show B + 5 + e ≠ B + 5 + f by omega)) bx by_]

theorem stood44 : Yba.prog.stoodInHeld 44 = false := by kernel_rfl
/-- Two origins of one pool are equal just where both numbers are. -/
theorem eql44 (B x y e f : Nat) (hx : x < 4) (hy : y < 4) (he : e < 2) (hf : f < 2) (w : World) (hP : Pool B w) :
    (binOp .eql 44 (.agg #[pE B x, pN B e]) (.agg #[pE B y, pN B f])).run Yba.prog w = .ok (.bool (decide (x = y) && decide (e = f))) w := by
  have hE : (Op.equalIn 9999 30 (pE B x) (pE B y)).run Yba.prog w = .ok (decide (x = y)) w := eqE 9997 B x y hx hy w hP
  have hN : (Op.equalIn 9999 31 (pN B e) (pN B f)).run Yba.prog w = .ok (decide (e = f)) w := eqN 9998 B e f he hf w hP
  have h1 : (isAgg 30).run Yba.prog w = .ok false w := by simp [isAgg, run_underlying Yba.underlying30]
  rw [run_eql_struct, run_equalIn_struct w 9999 44 _ _ (by simp [Program.fieldsOf, Yba.underlying44]) stood44]
  simp only [Program.fieldsOf, Yba.underlying44]
  by_cases q : x = y
  · subst q
    simp only [decide_true, Bool.true_and] at hE ⊢
    by_cases r : e = f
    · subst r; simp [Op.eqFields, part, Sem.run_bind, h1, hE, hN]
    · simp [Op.eqFields, part, Sem.run_bind, h1, hE, hN, r]
  · simp [Op.eqFields, part, Sem.run_bind, h1, hE, q]

theorem guard44 (B x y e f : Nat) (p q : Operand) (w : World) : (eqGuard .eql 44 p q (.agg #[pE B x, pN B e]) (.agg #[pE B y, pN B f])).run Yba.prog w = .ok () w := by
  have h1 : (isAgg 30).run Yba.prog w = .ok false w := by simp [isAgg, run_underlying Yba.underlying30]
  have g : ∀ d, (Op.eqGuardIn (d + 2) 44 (.agg #[pE B x, pN B e]) (.agg #[pE B y, pN B f])).run Yba.prog w = .ok false w := fun d => by
    simp [Op.eqGuardIn, Sem.run_bind, run_underlying Yba.underlying44, run_underlying Yba.underlying30, run_underlying Yba.underlying31, part, h1]
  simp [eqGuard, Sem.run_bind, run_program, Op.maxDepth, g 9998]
end Go.Proofs.Ybulkamew
