import Derived.Test.YbulkamhaDiv
import Derived.Below
namespace Go.Proofs.Ybulkamha
open Go.ChangeShapes Go.WideShapes Go.ChangeAt Go.RowKit

set_option maxHeartbeats 1000000 in
theorem div_zero (l y : Int) (w : World) (l0 : 0 ≤ l) (l1 : l < 18446744073709551616) (y0 : 2305843009213693952 ≤ y) (y1 : y < 4611686018427387904) :
    Calls Yba.prog 18 #[.int .u64 0, .int .u64 l, .int .u64 y] w fun e w' => (∃ q, e = .returned (.tuple #[.int .u64 q, .int .u64 (l % y)])) ∧ ∃ n, w' = w.drewN n := by
  have e1 : (y == 0) = false := by simp; omega
  have e2 : decide (y ≤ 0) = false := by simp; omega
  have y2 : y ≠ 0 := by omega
  have m0 : 0 ≤ l % y := Int.emod_nonneg l y2
  have m1 : l % y < y := Int.emod_lt_of_pos l (by omega)
  have t1 : l.tmod y = l % y := Int.tmod_eq_emod_of_nonneg l0
  go_enter Yba.func18, Yba.ntmps18
  go_wp2_with fail
  go_quiet (fail)
  go_wp2_with fail
  go_ret2
  exact ⟨⟨_, by first | rfl | (rw [IntKind.wrap_u64]; congr; omega)⟩, _, rfl⟩

theorem rem_fold (h l y : Int) : (h % y * 18446744073709551616 + l) % y = (h * 18446744073709551616 + l) % y := by
  rw [Int.add_emod, Int.mul_emod, Int.emod_emod, ← Int.mul_emod, ← Int.add_emod]

set_option maxHeartbeats 1000000 in
theorem rem_any (h l y : Int) (w : World) (h0 : 0 ≤ h) (l0 : 0 ≤ l) (l1 : l < 18446744073709551616) (y0 : 2305843009213693952 ≤ y) (y1 : y < 4611686018427387904) :
    Calls Yba.prog 14 #[.int .u64 h, .int .u64 l, .int .u64 y] w fun e w' => e = .returned (.int .u64 ((h * 18446744073709551616 + l) % y)) ∧ ∃ n, w' = w.drewN n := by
  have y2 : y ≠ 0 := by omega
  have m0 : 0 ≤ h % y := Int.emod_nonneg h y2
  have m1 : h % y < y := Int.emod_lt_of_pos h (by omega)
  have HD : Hid (∀ w, Calls Yba.prog 18 #[.int .u64 (h % y), .int .u64 l, .int .u64 y] w fun e w' => (∃ q, e = .returned (.tuple #[.int .u64 q, .int .u64 ((h * 18446744073709551616 + l) % y)])) ∧ ∃ n, w' = w.drewN n) := by
    refine Hid.mk' fun w => ?_
    by_cases z : h % y = 0
    · have e : (h * 18446744073709551616 + l) % y = l % y := by rw [← rem_fold, z]; simp
      rw [z, e]
      exact div_zero l y w l0 l1 y0 y1
    · refine (div_any (h % y) l y w (by omega) m1 l0 l1 y0 y1).mono ?_
      rintro e w' ⟨⟨q, rfl⟩, rfl⟩
      rw [rem_fold]
      exact ⟨⟨q, rfl⟩, 0, rfl⟩
  have t1 : h.tmod y = h % y := Int.tmod_eq_emod_of_nonneg h0
  go_enter Yba.func14, Yba.ntmps14
  go_wp2_with fail
  refine (HD.out _).mono ?_
  rintro e w' ⟨⟨q, rfl⟩, n, rfl⟩
  go_wp2_with fail
  go_ret
  exact ⟨rfl, _, rfl⟩
end Go.Proofs.Ybulkamha
