import Derived.Test.YbulkamgmBuild
import Derived.Laws.BitsAllLaws
namespace Go.Proofs.Ybulkamgm
open Go.ChangeShapes Go.WideShapes Go.ChangeAt Go.RowKit

/-- What stateValue hands back. -/
def sv (k n : Int) (t : Bool) : Int := (2 * (2 + k * n) + (if t then 1 else 0)) % 4294967296

theorem or_one (m : Nat) : (2 * m) ||| 1 = 2 * m + 1 := by
  have h := Nat.two_pow_add_eq_or_of_lt (i := 1) (b := 1) (by omega) m
  simpa using h.symm
theorem bits_or_one (x : Int) (h0 : 0 ≤ x) (h1 : x < 2147483648) : bits .or .u32 (2 * x) 1 = 2 * x + 1 := by
  rw [u32_or _ _ (by omega) (by omega) (by omega) (by omega)]
  obtain ⟨m, rfl⟩ := Int.eq_ofNat_of_zero_le h0
  rw [show ((2 * (m : Int)).toNat) = 2 * m by omega, show (1 : Int).toNat = 1 from rfl, or_one]
  omega
theorem sv_false (k n : Int) : wrap64 (2 + wrap64 (k * n)) % 4294967296 * 2 % 4294967296 = sv k n false := by
  unfold sv wrap64
  generalize k * n = y
  simp
  omega
theorem sv_true (k n : Int) : bits .or .u32 (wrap64 (2 + wrap64 (k * n)) % 4294967296 * 2 % 4294967296) 1 = sv k n true := by
  rw [sv_false]
  unfold sv
  generalize k * n = y
  rw [show ((2 * (2 + y) + (if false = true then 1 else 0)) % 4294967296 : Int) = 2 * ((2 + y) % 2147483648) by simp; omega, bits_or_one _ (by omega) (by omega)]
  simp
  omega

theorem ret_eq {k : IntKind} {a b : Int} (h : a = b) : Ending.returned (.int k a) = .returned (.int k b) := by rw [h]
theorem ret_true {a b : Int} (h : a = b) : Ending.returned (.bool (a == b)) = .returned (.bool true) := by rw [h]; simp

set_option maxHeartbeats 400000 in
/-- (s).stateValue(k, atEnd). -/
theorem value_any (b1 b2 : Nat) (k n : Int) (t : Bool) (w : World) (h2 : w.cell? ⟨b2, 0, none⟩ = some (.pointer (some ⟨b1, 0, none⟩))) (h1 : w.cell? ⟨b1, 2, none⟩ = some (.int .i64 n)) :
    Calls Yba.prog 8 #[.pointer (some ⟨b2, 0, none⟩), .int .i64 k, .bool t] w fun e w' => e = .returned (.int .u32 (sv k n t)) ∧ w' = w := by
  cases t with
  | true =>
    go_enter Yba.func8, Yba.ntmps8
    go_wp2
    go_ret
    exact ⟨ret_eq (sv_true k n), rfl⟩
  | false =>
    go_enter Yba.func8, Yba.ntmps8
    go_wp2
    go_ret
    exact ⟨ret_eq (sv_false k n), rfl⟩

/-! ### The plain law of LawS1897BExact -/
theorem exact_mod (k n : Int) : (k % 4294967296 * (n % 4294967296)) % 4294967296 = (k * n) % 4294967296 := (Int.mul_emod k n 4294967296).symm
theorem exact_false (k n : Int) : sv k n false = (2 + k % 4294967296 * (n % 4294967296) + (2 + k % 4294967296 * (n % 4294967296))) % 4294967296 := by
  have h := exact_mod k n
  unfold sv
  generalize k % 4294967296 * (n % 4294967296) = x at *
  generalize k * n = y at *
  simp
  omega
theorem exact_true (k n : Int) : sv k n true = (2 + k % 4294967296 * (n % 4294967296) + (2 + k % 4294967296 * (n % 4294967296))) % 4294967296 + 1 := by
  have h := exact_mod k n
  unfold sv
  generalize k % 4294967296 * (n % 4294967296) = x at *
  generalize k * n = y at *
  simp
  omega

set_option maxHeartbeats 400000 in
theorem law_exact (a0 a1 : Int) (a2 : Bool) (w : World) : Calls Yba.prog 3 #[.int .i64 a0, .int .i64 a1, .bool a2] w fun e w' => e = .returned (.bool true) ∧ Grown w w' := by
  cases a2 with
  | true =>
    go_enter Yba.func3, Yba.ntmps3
    go_wp2_with (first | (go_at_call 7; refine (states_any a1 w).mono ?_; rintro e w1 ⟨rfl, C, rfl, hC⟩) | (go_at_call 8; refine (value_any w.heap.size (w.heap.size + 1) a0 a1 true _ (by simp [World.cell?_alloc_at, hC]) (by simp [World.cell?_alloc_past, World.cell?_alloc_at, C51_2])).mono ?_; rintro e w1 ⟨rfl, rfl⟩))
    go_ret
    exact ⟨ret_true (exact_true a0 a1), ((Grown.refl _).alloc _ _).alloc _ _⟩
  | false =>
    go_enter Yba.func3, Yba.ntmps3
    go_wp2_with (first | (go_at_call 7; refine (states_any a1 w).mono ?_; rintro e w1 ⟨rfl, C, rfl, hC⟩) | (go_at_call 8; refine (value_any w.heap.size (w.heap.size + 1) a0 a1 false _ (by simp [World.cell?_alloc_at, hC]) (by simp [World.cell?_alloc_past, World.cell?_alloc_at, C51_2])).mono ?_; rintro e w1 ⟨rfl, rfl⟩))
    go_ret
    exact ⟨ret_true (exact_false a0 a1), ((Grown.refl _).alloc _ _).alloc _ _⟩
end Go.Proofs.Ybulkamgm
