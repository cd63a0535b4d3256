import Derived.Test.YbulkamgmState
namespace Go.Proofs.Ybulkamgm
open Go.ChangeShapes Go.WideShapes Go.ChangeAt Go.RowKit

theorem and_one (m : Nat) (b : Nat) (hb : b < 2) : (2 * m + b) &&& 1 = b := by
  rw [Nat.and_one_is_mod]; omega
theorem bits_and_one (x b : Int) (h0 : 0 ≤ x) (h1 : x < 2147483648) (b0 : 0 ≤ b) (b1 : b < 2) : bits .and .u32 (2 * x + b) 1 = b := by
  rw [u32_and _ _ (by omega) (by omega) (by omega) (by omega)]
  obtain ⟨m, rfl⟩ := Int.eq_ofNat_of_zero_le h0
  obtain ⟨c, rfl⟩ := Int.eq_ofNat_of_zero_le b0
  rw [show ((2 * (m : Int) + (c : Int)).toNat) = 2 * m + c by omega, show (1 : Int).toNat = 1 from rfl, and_one m c (by omega)]

theorem decode_plain (K N : Int) (t : Bool) (k0 : 0 ≤ K) (k1 : K < 1048576) (n0 : 1 ≤ N) (n1 : N ≤ 1024) :
    ∃ P : Int, 0 ≤ P ∧ P ≤ 1073741824 ∧ sv K N t / 2 = 2 + P ∧ 4 ≤ sv K N t ∧ bits .and .u32 (sv K N t) 1 = (if t then 1 else 0) ∧ P.tmod N = 0 ∧ P.tdiv N = K ∧ P % N = 0 ∧ P / N = K := by
  have p0 : 0 ≤ K * N := Int.mul_nonneg k0 (by omega)
  have p1 : K * N ≤ 1048576 * 1024 := Int.mul_le_mul (by omega) n1 (by omega) (by omega)
  have e1 : (K * N) % N = 0 := Int.mul_emod_left K N
  have e2 : (K * N) / N = K := Int.mul_ediv_cancel K (by omega)
  refine ⟨K * N, p0, by omega, ?_, ?_, ?_, ?_, ?_, e1, e2⟩
  · unfold sv
    generalize K * N = y at *
    cases t <;> simp <;> omega
  · unfold sv
    generalize K * N = y at *
    cases t <;> simp <;> omega
  · have h : sv K N t = 2 * (2 + K * N) + (if t then 1 else 0) := by
      unfold sv
      generalize K * N = y at *
      cases t <;> simp <;> omega
    rw [h]
    exact bits_and_one _ _ (by omega) (by omega) (by cases t <;> simp) (by cases t <;> simp)
  · rw [Int.tmod_eq_emod_of_nonneg p0]; exact e1
  · rw [Int.tdiv_eq_ediv_of_nonneg p0]; exact e2

set_option maxHeartbeats 400000 in
theorem law_decode (a0 a1 : Int) (a2 : Bool) (w : World) (h0 : 0 ≤ a0) (h0' : a0 < 4294967296) (h1 : 0 ≤ a1) (h1' : a1 < 65536) : Calls Yba.prog 4 #[.int .u32 a0, .int .u16 a1, .bool a2] w fun e w' => e = .returned (.bool true) ∧ Grown w w' := by
  obtain ⟨K, hK⟩ : ∃ K, K = a0 % 1048576 := ⟨_, rfl⟩
  obtain ⟨N, hN⟩ : ∃ N, N = a1 % 1024 + 1 := ⟨_, rfl⟩
  have rK : a0 % 1048576 = K := hK.symm
  have rN : a1 % 1024 + 1 = N := hN.symm
  have k0 : 0 ≤ K := by omega
  have k1 : K < 1048576 := by omega
  have n0 : 1 ≤ N := by omega
  have n1 : N ≤ 1024 := by omega
  clear hK hN
  cases a2 with
  | true =>
    obtain ⟨P, p0, p1, q1, q2, q3, q4, q5, q6, q7⟩ := decode_plain K N true k0 k1 n0 n1
    simp only [if_true] at q3
    have q8 : (2 + P - 2) % N = 0 := by rw [show 2 + P - 2 = P by omega]; exact q6
    have q9 : (2 + P - 2) / N = K := by rw [show 2 + P - 2 = P by omega]; exact q7
    go_enter Yba.func4, Yba.ntmps4
    go_wp2_with (first | (go_at_call 7; refine (states_any N w).mono ?_; rintro e w1 ⟨rfl, C, rfl, hC⟩) | (go_at_call 8; refine (value_any w.heap.size (w.heap.size + 1) K N true _ (by simp [World.cell?_alloc_at, hC]) (by simp [World.cell?_alloc_past, World.cell?_alloc_at, C51_2])).mono ?_; rintro e w1 ⟨rfl, rfl⟩))
    go_ret
    exact ⟨by first | rfl | exact ret_true q9, ((Grown.refl _).alloc _ _).alloc _ _⟩
  | false =>
    obtain ⟨P, p0, p1, q1, q2, q3, q4, q5, q6, q7⟩ := decode_plain K N false k0 k1 n0 n1
    simp only [Bool.false_eq_true, if_false] at q3
    have q8 : (2 + P - 2) % N = 0 := by rw [show 2 + P - 2 = P by omega]; exact q6
    have q9 : (2 + P - 2) / N = K := by rw [show 2 + P - 2 = P by omega]; exact q7
    go_enter Yba.func4, Yba.ntmps4
    go_wp2_with (first | (go_at_call 7; refine (states_any N w).mono ?_; rintro e w1 ⟨rfl, C, rfl, hC⟩) | (go_at_call 8; refine (value_any w.heap.size (w.heap.size + 1) K N false _ (by simp [World.cell?_alloc_at, hC]) (by simp [World.cell?_alloc_past, World.cell?_alloc_at, C51_2])).mono ?_; rintro e w1 ⟨rfl, rfl⟩))
    go_ret
    exact ⟨by first | rfl | exact ret_true q9, ((Grown.refl _).alloc _ _).alloc _ _⟩
end Go.Proofs.Ybulkamgm
