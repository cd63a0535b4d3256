import Derived.Test.YbulkamhaMont
import Derived.Test.YbulkamhaAlg
namespace Go.Proofs.Ybulkamha

theorem pow_dvd {p h X : Int} (hp : p = 2 * h + 1) : ∀ k : Nat, (∃ t, 2 ^ k * X = p * t) → ∃ t, X = p * t := by
  intro k
  induction k with
  | zero => intro h; simpa using h
  | succ k ih =>
    rintro ⟨t, ht⟩
    exact ih (half_dvd hp ⟨t, by rw [← ht, Int.pow_succ, Int.mul_comm _ 2, Int.mul_assoc]⟩)

theorem mulI_law {p pinv a b s : Int} (hinv : p * pinv = 1 + 18446744073709551616 * s) (p0 : 0 < p) (p1 : p < 4611686018427387904) (a0 : 0 ≤ a) (b0 : 0 ≤ b) (hab : a * b < p * 18446744073709551616) :
    0 ≤ mulI p pinv a b ∧ mulI p pinv a b < p ∧ ∃ t, mulI p pinv a b * 18446744073709551616 = a * b + p * t := by
  unfold mulI mW hiW loW
  have ab0 : 0 ≤ a * b := Int.mul_nonneg a0 b0
  generalize a * b = ab at *
  generalize hH : ab / 18446744073709551616 = H
  generalize hL : ab % 18446744073709551616 = L
  have h1 := Int.mul_ediv_add_emod (L * pinv) 18446744073709551616
  generalize hi : L * pinv / 18446744073709551616 = i at h1
  generalize hm : L * pinv % 18446744073709551616 = m at h1 ⊢
  have m0 : 0 ≤ m := by omega
  have m1 : m ≤ 18446744073709551615 := by omega
  have e : m * p = L + 18446744073709551616 * (L * s - i * p) := by
    have em : m = L * pinv - 18446744073709551616 * i := by omega
    rw [em]
    exact alg_mul hinv
  have mp0 : 0 ≤ m * p := Int.mul_nonneg m0 (by omega)
  have mp1 : m * p ≤ 18446744073709551615 * p := Int.mul_le_mul_of_nonneg_right m1 (by omega)
  have ep : p * m = m * p := Int.mul_comm _ _
  have en : p * (-m) = -(m * p) := by rw [Int.mul_neg, ep]
  have es : p * (18446744073709551616 - m) = 18446744073709551616 * p - m * p := by rw [Int.mul_sub, ep]; omega
  generalize L * s - i * p = z at e
  generalize hz : m * p / 18446744073709551616 = G
  split
  · refine ⟨by omega, by omega, 18446744073709551616 - m, ?_⟩
    rw [es]; omega
  · refine ⟨by omega, by omega, -m, ?_⟩
    rw [en]; omega

theorem scale_law {p pinv s h S d : Int} (hp : p = 2 * h + 1) (hinv : p * pinv = 1 + 18446744073709551616 * s) (p0 : 2305843009213693952 ≤ p) (p1 : p < 4611686018427387904) (hS : p - 1 = S * d) (S0 : 1 ≤ S) (d0 : 1 ≤ d) (R : Int)
    (hR : R = mulI p pinv (mulI p pinv (p - (p - 1) / S) (340282366920938463463374607431768211456 % p)) (340282366920938463463374607431768211456 % p)) :
    0 ≤ R ∧ R < p ∧ R * S % p = 340282366920938463463374607431768211456 % p := by
  have hd : (p - 1) / S = d := by rw [hS]; exact Int.mul_ediv_cancel_left _ (by omega)
  have dl : d ≤ p - 1 := by rw [← hd]; exact Int.ediv_le_self _ (by omega)
  rw [hd] at hR
  have r20 := Int.emod_nonneg 340282366920938463463374607431768211456 (show p ≠ 0 by omega)
  have r21 := Int.emod_lt_of_pos 340282366920938463463374607431768211456 (show 0 < p by omega)
  have hu := Int.mul_ediv_add_emod 340282366920938463463374607431768211456 p
  generalize 340282366920938463463374607431768211456 / p = u at hu
  generalize hr2 : (340282366920938463463374607431768211456 : Int) % p = r2 at *
  have small : ∀ x, 0 ≤ x → x < p → x * r2 < p * 18446744073709551616 := by
    intro x x0 x1
    have : x * r2 ≤ p * r2 := Int.mul_le_mul_of_nonneg_right (by omega) r20
    have : p * r2 < p * 18446744073709551616 := Int.mul_lt_mul_of_pos_left (by omega) (by omega)
    omega
  obtain ⟨a0, a1, t1, e1⟩ := mulI_law hinv (by omega) p1 (show 0 ≤ p - d by omega) r20 (small _ (by omega) (by omega))
  generalize mulI p pinv (p - d) r2 = R1 at *
  obtain ⟨b0, b1, t2, e2⟩ := mulI_law hinv (by omega) p1 a0 r20 (small _ a0 a1)
  rw [← hR] at b0 b1 e2
  refine ⟨b0, b1, ?_⟩
  obtain ⟨t, ht⟩ : ∃ t, R * S - 340282366920938463463374607431768211456 = p * t := by
    refine pow_dvd hp 128 ⟨S * (t1 * r2 + t2 * 18446744073709551616) + (S - 1) * r2 * r2 - u * (340282366920938463463374607431768211456 + r2), ?_⟩
    have k : (2 : Int) ^ 128 = 340282366920938463463374607431768211456 := by decide +kernel
    rw [k]
    clear k
    exact alg_fin (alg_two (by omega) e1 e2) (alg_inv hS) hu
  rw [show R * S = 340282366920938463463374607431768211456 + p * t by omega, Int.add_mul_emod_self_left, hr2]
end Go.Proofs.Ybulkamha
