import Derived.Test.YbulkamhaWork
namespace Go.Proofs.Ybulkamha

/-! ### Plain: the algebra, over letters -/
theorem alg_newton {p v t i j k N Q : Int} (hN : N = Q * Q) (ht : p * v = 1 + Q * t) : p * (v * (1 + (1 - p * v + N * i - N * j)) - N * k) = 1 + N * (-(t * t) + p * v * i - p * v * j - p * k) := by
  have a : ∀ B, p * (v * B - N * k) = p * v * B - N * (p * k) := by
    intro B
    rw [Int.mul_sub, ← Int.mul_assoc, Int.mul_left_comm p N k]
  rw [a, ht, hN]
  simp only [Int.mul_add, Int.mul_sub, Int.mul_neg, Int.mul_one, Int.mul_comm, Int.mul_left_comm]
  omega
theorem alg_mul {p v L s i N : Int} (hinv : p * v = 1 + N * s) : (L * v - N * i) * p = L + N * (L * s - i * p) := by
  have a : (L * v - N * i) * p = L * (p * v) - N * (i * p) := by
    rw [Int.sub_mul, Int.mul_assoc, Int.mul_assoc, Int.mul_comm v p]
  rw [a, hinv]
  simp only [Int.mul_add, Int.mul_sub, Int.mul_one, Int.mul_left_comm]
  omega
theorem alg_two {R R1 N N2 D r2 p t1 t2 : Int} (hN : N2 = N * N) (e1 : R1 * N = D * r2 + p * t1) (e2 : R * N = R1 * r2 + p * t2) : R * N2 = D * r2 * r2 + p * (t1 * r2 + t2 * N) := by
  have a : R * N2 = R1 * N * r2 + p * t2 * N := by
    rw [hN, ← Int.mul_assoc, e2, Int.add_mul, Int.mul_assoc R1, Int.mul_comm r2 N, ← Int.mul_assoc]
  rw [a, e1]
  simp only [Int.mul_add, Int.add_mul, Int.mul_assoc]
  omega
theorem alg_inv {p S d : Int} (hS : p - 1 = S * d) : S * (p - d) = 1 + p * (S - 1) := by
  rw [Int.mul_sub, ← hS, Int.mul_sub, Int.mul_one, Int.mul_comm S p]
  omega
theorem alg_fin {p R S N D K r2 u : Int} (c1 : R * N = D * r2 * r2 + p * K) (c2 : S * D = 1 + p * (S - 1)) (hu : p * u + r2 = N) : N * (R * S - N) = p * (S * K + (S - 1) * r2 * r2 - u * (N + r2)) := by
  have a : N * (R * S - N) = S * (R * N) - N * N := by
    rw [Int.mul_sub, ← Int.mul_assoc, Int.mul_comm (N * R) S, Int.mul_comm N R]
  have b : S * (D * r2 * r2 + p * K) = (S * D) * (r2 * r2) + p * (S * K) := by
    rw [Int.mul_add, Int.mul_left_comm S p K, Int.mul_assoc D, Int.mul_assoc S]
  have c : N * N = r2 * r2 + p * (u * (N + r2)) := by
    rw [← hu]
    simp only [Int.mul_add, Int.mul_comm, Int.mul_left_comm]
    omega
  rw [a, c1, b, c2, c]
  simp only [Int.mul_add, Int.mul_sub, Int.mul_one, Int.mul_comm, Int.mul_left_comm]
  omega
theorem alg_square {c N : Int} : (c * N + 1) * (c * N + 1) = N * N * (c * c) + (c * N + c * N) + 1 := by
  simp only [Int.mul_add, Int.mul_one, Int.mul_comm, Int.mul_left_comm]
  omega
theorem half_dvd {p h Y : Int} (hp : p = 2 * h + 1) (hd : ∃ t, 2 * Y = p * t) : ∃ t, Y = p * t := by
  obtain ⟨t, ht⟩ := hd
  have e0 : p * t = 2 * (h * t) + t := by rw [hp, Int.add_mul, Int.one_mul, Int.mul_assoc]
  refine ⟨Y - h * t, ?_⟩
  have e : t = 2 * (Y - h * t) := by omega
  have e2 : p * t = 2 * (p * (Y - h * t)) := by rw [← Int.mul_left_comm, ← e]
  omega
end Go.Proofs.Ybulkamha
