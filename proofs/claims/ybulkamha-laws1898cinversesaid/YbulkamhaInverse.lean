import Derived.Test.YbulkamhaNew
import Derived.Test.YbulkamhaPlain
namespace Go.Proofs.Ybulkamha
open Go.ChangeShapes Go.WideShapes Go.ChangeAt Go.RowKit

set_option maxHeartbeats 1000000 in
theorem prime_any (c : Int) (w : World) (h0 : 0 ≤ c) (h1 : c < 65536) : Calls Yba.prog 10 #[.int .u16 c] w fun e w' => e = .returned (.int .u64 ((c % 256 + 256) * 9007199254740992 + 1)) ∧ w' = w := by
  go_enter Yba.func10, Yba.ntmps10
  go_wp2
  go_ret
  exact ⟨rfl, rfl⟩

theorem size_law (j : Nat) (hj : j ≤ 53) (c : Int) (c0 : 1 ≤ c) : ∃ S d : Int, wrap64 (2 ^ j) = S ∧ 1 ≤ S ∧ S ≤ 9007199254740992 ∧ c * 9007199254740992 = S * d ∧ 1 ≤ d := by
  have e : (2 : Int) ^ 53 = 2 ^ j * 2 ^ (53 - j) := by rw [← Int.pow_add]; congr 1; omega
  have k : (2 : Int) ^ 53 = 9007199254740992 := by decide +kernel
  rw [k] at e
  have a : (0 : Int) < 2 ^ j := Int.pow_pos (by omega)
  have b : (0 : Int) < 2 ^ (53 - j) := Int.pow_pos (by omega)
  have le : (2 : Int) ^ j * 1 ≤ 2 ^ j * 2 ^ (53 - j) := Int.mul_le_mul_of_nonneg_left (by omega) (by omega)
  refine ⟨2 ^ j, c * 2 ^ (53 - j), ?_, by omega, by omega, ?_, ?_⟩
  · unfold wrap64; omega
  · rw [e, ← Int.mul_assoc, ← Int.mul_assoc, Int.mul_comm c]
  · have : 0 < c * 2 ^ (53 - j) := Int.mul_pos (by omega) b
    omega

set_option maxHeartbeats 1000000 in
theorem law_inverse (a0 a1 : Int) (w : World) (h0 : 0 ≤ a0) (h0' : a0 < 65536) (h1 : 0 ≤ a1) (h1' : a1 < 256) : Calls Yba.prog 5 #[.int .u16 a0, .int .u8 a1] w fun e w' => e = .returned (.bool true) ∧ Below w.heap.size w w' := by
  obtain ⟨c, hc⟩ : ∃ c, c = a0 % 256 + 256 := ⟨_, rfl⟩
  have c0 : 256 ≤ c := by omega
  have c1 : c < 512 := by omega
  obtain ⟨p, hp⟩ : ∃ p, p = c * 9007199254740992 + 1 := ⟨_, rfl⟩
  have HC : Hid (∀ w, Calls Yba.prog 10 #[.int .u16 a0] w fun e w' => e = .returned (.int .u64 p) ∧ w' = w) := Hid.mk' fun w => by rw [hp, hc]; exact prime_any a0 w h0 h0'
  have p0 : 2305843009213693952 ≤ p := by omega
  have p1 : p < 4611686018427387904 := by omega
  have HN : Hid (∀ w, Calls Yba.prog 11 #[.int .u64 p, .int .u64 3] w fun e w' => (∃ pinv root, (∃ s, p * pinv = 1 + 18446744073709551616 * s) ∧ e = .returned (.agg #[.int .u64 p, .int .u64 pinv, .int .u64 (340282366920938463463374607431768211456 % p), .int .u64 root])) ∧ Below w.heap.size w w') :=
    Hid.mk' fun w => new_any p w p0 p1 ⟨4194304 * c + 18889465931478580854784 * (c * c), by rw [hp, alg_square]; omega⟩
  have hodd : p = 2 * (c * 4503599627370496) + 1 := by omega
  obtain ⟨S, d, hS, S0, S1, hd, d0⟩ := size_law (a1 % 54).toNat (by omega) c (by omega)
  have hpd : p - 1 = S * d := by omega
  obtain ⟨r1, hr1⟩ : ∃ r, r = (1 * 18446744073709551616 + 0) % p := ⟨_, rfl⟩
  obtain ⟨r2, hr2⟩ : ∃ r, r = 340282366920938463463374607431768211456 % p := ⟨_, rfl⟩
  have r10 : 0 ≤ r1 := by rw [hr1]; exact Int.emod_nonneg _ (by omega)
  have r20 : 0 ≤ r2 := by rw [hr2]; exact Int.emod_nonneg _ (by omega)
  have r21 : r2 < p := by rw [hr2]; exact Int.emod_lt_of_pos _ (by omega)
  have HR1 : Hid (∀ w, Calls Yba.prog 14 #[.int .u64 1, .int .u64 0, .int .u64 p] w fun e w' => e = .returned (.int .u64 r1) ∧ ∃ n, w' = w.drewN n) :=
    Hid.mk' fun w => by rw [hr1]; exact rem_any 1 0 p w (by omega) (by omega) (by omega) p0 p1
  have HR2 : Hid (∀ w, Calls Yba.prog 14 #[.int .u64 r1, .int .u64 0, .int .u64 p] w fun e w' => e = .returned (.int .u64 r2) ∧ ∃ n, w' = w.drewN n) :=
    Hid.mk' fun w => by
      have h := rem_any r1 0 p w r10 (by omega) (by omega) p0 p1
      rw [Int.add_zero, hr1, r2_eq, ← hr2, ← hr1] at h
      exact h
  have HL : Hid (∀ pinv, (∃ s, p * pinv = 1 + 18446744073709551616 * s) → ∃ R, R = mulI p pinv (mulI p pinv (p - (p - 1) / S) r2) r2 ∧ 0 ≤ R ∧ R < p ∧ R * S % p = r2) := Hid.mk' fun pinv ⟨s, hs⟩ => by
    rw [hr2]; exact ⟨_, rfl, scale_law hodd hs p0 p1 hpd S0 d0 _ rfl⟩
  rw [← hr2] at HN
  have HS := Hid.mk' hS
  clear hc hp hodd hpd hd d0 hr1 hr2 hS
  go_enter Yba.func5, Yba.ntmps5
  go_wp2_with fail
  refine (HC.out _).mono ?_
  rintro e w' ⟨rfl, rfl⟩
  go_wp2_with fail
  refine (HN.out _).mono ?_
  rintro e w1 ⟨⟨pinv, root, hs, rfl⟩, hb⟩
  go_wp2_with fail
  rw [HS.out]
  obtain ⟨R, hR, R0, R1, hRS⟩ := HL.out pinv hs
  clear HL HN HC hs
  obtain ⟨H, hH⟩ : ∃ H, H = R * S / 18446744073709551616 := ⟨_, rfl⟩
  obtain ⟨L, hL⟩ : ∃ L, L = R * S % 18446744073709551616 := ⟨_, rfl⟩
  have H0 : 0 ≤ H := by rw [hH]; exact Int.ediv_nonneg (Int.mul_nonneg R0 (by omega)) (by omega)
  have HM : Hid (∀ w, Calls Yba.prog 13 #[.int .u64 R, .int .u64 S] w fun e w' => e = .returned (.tuple #[.int .u64 H, .int .u64 L]) ∧ w' = w) :=
    Hid.mk' fun w => by rw [hH, hL]; exact mul64 R S R0 (by omega) (by omega) (by omega) w
  have HR3 : Hid (∀ w, Calls Yba.prog 14 #[.int .u64 H, .int .u64 L, .int .u64 p] w fun e w' => e = .returned (.int .u64 r2) ∧ ∃ n, w' = w.drewN n) :=
    Hid.mk' fun w => by
      have h := rem_any H L p w H0 (by omega) (by omega) p0 p1
      rw [show H * 18446744073709551616 + L = R * S by omega, hRS] at h
      exact h
  have HB := Hid.mk' hb
  have HV := Hid.mk' (scale_any w1.heap.size p pinv r2 S (w1.alloc (.cells #[.int .u64 p, .int .u64 pinv, .int .u64 r2, .int .u64 root] 31)) (Md.made _ _ _ _ _ _ rfl (by omega) (by omega) r20 (by omega)) (by omega) S0 S1)
  rw [← hR] at HV
  clear hH hL hR hRS hb HS
  refine HV.out.mono ?_
  rintro e w2 ⟨rfl, n, rfl⟩
  clear HV
  go_wp2_with fail
  refine (HM.out _).mono ?_
  rintro e w2 ⟨rfl, rfl⟩
  go_wp2_with fail
  refine (HR1.out _).mono ?_
  rintro e w2 ⟨rfl, n2, rfl⟩
  go_wp2_with fail
  refine (HR2.out _).mono ?_
  rintro e w2 ⟨rfl, n3, rfl⟩
  go_wp2_with fail
  refine (HR3.out _).mono ?_
  rintro e w2 ⟨rfl, n4, rfl⟩
  go_wp2_with fail
  go_ret
  refine ⟨rfl, ?_⟩
  repeat apply bel_drewN
  exact HB.out.alloc HB.out.size _
end Go.Proofs.Ybulkamha
