import Derived.Test.YbulkamhaWork
namespace Go.Proofs.Ybulkamha
open Go.ChangeShapes Go.WideShapes Go.ChangeAt Go.RowKit

theorem step_lt {x j : Nat} (hx : x < 100000000) (h : 2 ^ j ≤ x) : j < Lib.bitLen x := by
  rcases Nat.lt_or_ge j (Lib.bitLen x) with h1 | h1
  · exact h1
  · have h2 := lt_bitLen 64 x (by omega) (by omega)
    have h3 : 2 ^ Lib.bitLen x ≤ 2 ^ j := Nat.pow_le_pow_right (by omega) h1
    omega
theorem stop_eq {x j : Nat} (hj : j ≤ Lib.bitLen x) (hx : x < 100000000) (h : x < 2 ^ j) : ((2 ^ j : Nat) : Int) = P2 x := by
  have h1 : Lib.bitLen x ≤ j := Lib.bitLen_le x j (by have := bitLen_lt64 hx; omega) h
  have : j = Lib.bitLen x := by omega
  rw [P2_cast, this]

set_option maxHeartbeats 400000 in
/-- zzs1898bpow(k): the least power of two that is at least k. -/
theorem pow_any (k : Nat) (w : World) (h0 : 1 ≤ k) (h1 : k ≤ 50000000) : Calls Yba.prog 8 #[.int .i64 k] w fun e w' => e = .returned (.int .i64 (P2 (k - 1))) ∧ w' = w := by
  go_enter Yba.func8, Yba.ntmps8
  go_wp2
  go_loop [3] (fun p => ∃ (j q : Nat), j ≤ Lib.bitLen (k - 1) ∧ Hid (q = 2 ^ j) ∧ 1 ≤ q ∧ q ≤ 134217728 ∧ p = .int .i64 q) (fun p => k - (intOf p).toNat)
  case atStart => exact ⟨0, 1, Nat.zero_le _, rfl, by omega, by omega, rfl⟩
  case round =>
    obtain ⟨j, q, hj, HQ, q1, q2, rfl⟩ := hrel
    by_cases hlt : q < k
    · have hlt' : (q : Int) < (k : Int) := by omega
      have hs := step_lt (x := k - 1) (j := j) (by omega) (by rw [← HQ.out]; omega)
      have HS := Hid.mk' hs
      clear hs
      go_wp2
      go_round
      case rel => exact ⟨j + 1, q * 2, HS.out, by unfold Hid; rw [Nat.pow_succ, HQ.out], by omega, by omega, by go_num⟩
      case measure => simp [intOf]; omega
    · have hge : ¬ (q : Int) < (k : Int) := by omega
      have HE := Hid.mk' (stop_eq (x := k - 1) hj (by omega) (by rw [← HQ.out]; omega))
      go_wp2
      go_ret
      exact ⟨ret_int (by rw [HQ.out]; exact HE.out), rfl⟩

set_option maxHeartbeats 400000 in
theorem law_exact (a0 a1 : Int) (w : World) (h0 : 0 ≤ a0) (h0' : a0 < 4294967296) (h1 : 0 ≤ a1) (h1' : a1 < 4294967296) : Calls Yba.prog 3 #[.int .u32 a0, .int .u32 a1] w fun e w' => e = .returned (.bool true) ∧ Grown w w' := by
  obtain ⟨m, hm⟩ : ∃ m, m = a0 % 16777216 + 1 := ⟨_, rfl⟩
  obtain ⟨n, hn⟩ : ∃ n, n = a1 % 16777216 + 1 := ⟨_, rfl⟩
  have HM := Hid.mk' (fun w => map_any a0 w h0 h0')
  have HN := Hid.mk' (fun w => map_any a1 w h1 h1')
  have Hm := Hid.mk' hm
  have Hn := Hid.mk' hn
  have m0 : 1 ≤ m := by omega
  have m1 : m ≤ 16777216 := by omega
  have n0 : 1 ≤ n := by omega
  have n1 : n ≤ 16777216 := by omega
  clear hm hn
  obtain ⟨k, hk⟩ : ∃ k : Nat, (k : Int) = m + n - 1 := ⟨(m + n - 1).toNat, by omega⟩
  have rk : m + n - 1 = (k : Int) := hk.symm
  obtain ⟨S, hS⟩ : ∃ S, S = P2 (k - 1) := ⟨_, rfl⟩
  have s0 : 1 ≤ S := by rw [hS]; exact P2_pos _
  have s1 : S ≤ 134217728 := by rw [hS]; exact P2_le (by omega)
  have HP := Hid.mk' (fun w => pow_any k w (by omega) (by omega))
  have HW := Hid.mk' (fun w => work_any m n w m0 (by omega) n0 (by omega))
  have HE : Hid (workI m n = 2 * S + S / 2 + m + n - 1) := by
    unfold Hid workI
    rw [hS, show (m + n - 2).toNat = k - 1 by omega]
  have HS := Hid.mk' hS
  clear hS hk
  go_enter Yba.func3, Yba.ntmps3
  go_wp2_with fail
  refine (HM.out _).mono ?_
  rintro e w' ⟨rfl, rfl⟩
  rw [← Hm.out]
  go_wp2_with fail
  refine (HN.out _).mono ?_
  rintro e w' ⟨rfl, rfl⟩
  rw [← Hn.out]
  go_wp2_with fail
  refine (HP.out _).mono ?_
  rintro e w' ⟨rfl, rfl⟩
  rw [← HS.out]
  go_wp2_with fail
  refine (HW.out _).mono ?_
  rintro e w' ⟨rfl, rfl⟩
  go_wp2_with fail
  go_ret
  exact ⟨ret_true (by rw [HE.out]), Grown.refl _⟩
end Go.Proofs.Ybulkamha
