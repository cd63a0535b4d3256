import Derived.Test.YbulkamhaShelf
import Derived.WalkKit
import Derived.ProofKit
namespace Go.Proofs.Ybulkamha
open Go.ChangeShapes Go.WideShapes Go.ChangeAt Go.RowKit

theorem Hid.mk' {p : Prop} (h : p) : Hid p := h
theorem ret_int {k : IntKind} {a b : Int} (h : a = b) : Ending.returned (.int k a) = .returned (.int k b) := by rw [h]
theorem ret_true {a b : Int} (h : a = b) : Ending.returned (.bool (a == b)) = .returned (.bool true) := by rw [h]; simp

/-! ### Plain: the least power of two above x -/
def P2 (x : Nat) : Int := 2 ^ Lib.bitLen x
theorem lt_bitLen : ∀ (f x : Nat), x < 2 ^ f → f ≤ 64 → x < 2 ^ Lib.bitLen x := by
  intro f
  induction f with
  | zero => intro x hx _; have : x = 0 := by simpa using hx
            subst this; decide
  | succ f ih =>
    intro x hx hf
    by_cases h0 : x = 0
    · subst h0; decide
    · have hp : (2 : Nat) ^ (f + 1) ≤ 2 ^ 64 := Nat.pow_le_pow_right (by omega) hf
      rw [Lib.bitLen_half x h0 (by omega), Nat.add_comm, Nat.pow_succ]
      have := ih (x / 2) (by rw [Nat.pow_succ] at hx; omega) (by omega)
      omega
theorem bitLen_lt64 {x : Nat} (h : x < 100000000) : Lib.bitLen x ≤ 27 := Lib.bitLen_le x 27 (by omega) (by omega)
theorem bitLen_mono {x y : Nat} (h : x ≤ y) (hy : y < 100000000) : Lib.bitLen x ≤ Lib.bitLen y :=
  Lib.bitLen_le x _ (by have := bitLen_lt64 hy; omega) (by have := lt_bitLen 64 y (by omega) (by omega); omega)
theorem P2_cast (x : Nat) : P2 x = ((2 ^ Lib.bitLen x : Nat) : Int) := by unfold P2; simp
theorem P2_pos (x : Nat) : 1 ≤ P2 x := by
  rw [P2_cast]; have := Nat.two_pow_pos (Lib.bitLen x); omega
theorem P2_le {x : Nat} (h : x < 100000000) : P2 x ≤ 134217728 := by
  rw [P2_cast]; have : 2 ^ Lib.bitLen x ≤ 2 ^ 27 := Nat.pow_le_pow_right (by omega) (bitLen_lt64 h); omega
theorem P2_mono {x y : Nat} (h : x ≤ y) (hy : y < 100000000) : P2 x ≤ P2 y := by
  rw [P2_cast, P2_cast]; have : 2 ^ Lib.bitLen x ≤ 2 ^ Lib.bitLen y := Nat.pow_le_pow_right (by omega) (bitLen_mono h hy); omega
theorem P2_wrap {x : Nat} (h : x < 100000000) : wrap64 (2 ^ min (Lib.bitLen x) 64) = P2 x := by
  have h1 := bitLen_lt64 h
  have h2 := P2_le h
  have h3 := P2_pos x
  rw [Nat.min_eq_left (by omega)]
  show wrap64 (P2 x) = P2 x
  unfold wrap64; omega

set_option maxHeartbeats 400000 in
theorem length_any (m n : Int) (w : World) (hm0 : 1 ≤ m) (hm1 : m ≤ 20000000) (hn0 : 1 ≤ n) (hn1 : n ≤ 20000000) :
    Calls Yba.prog 15 #[.int .i64 m, .int .i64 n] w fun e w' => e = .returned (.int .i64 (P2 (m + n - 2).toNat)) ∧ w' = w := by
  have hz : 0 ≤ m + n - 2 := by omega
  go_enter Yba.func15, Yba.ntmps15
  go_wp2_with (go_at_call 19; refine (Yba.bits_Len _ _ (by omega) (by omega)).mono ?_; rintro e w' ⟨rfl, rfl⟩)
  go_ret
  exact ⟨ret_int (P2_wrap (by omega)), rfl⟩

/-- nttWork's answer. -/
def workI (m n : Int) : Int := 2 * P2 (m + n - 2).toNat + P2 (m + n - 2).toNat / 2 + m + n - 1
set_option maxHeartbeats 400000 in
theorem work_any (m n : Int) (w : World) (hm0 : 1 ≤ m) (hm1 : m ≤ 20000000) (hn0 : 1 ≤ n) (hn1 : n ≤ 20000000) :
    Calls Yba.prog 9 #[.int .i64 m, .int .i64 n] w fun e w' => e = .returned (.int .i64 (workI m n)) ∧ w' = w := by
  have h1 := P2_pos (m + n - 2).toNat
  have h2 : P2 (m + n - 2).toNat ≤ 134217728 := P2_le (by omega)
  obtain ⟨S, hS⟩ : ∃ S, S = P2 (m + n - 2).toNat := ⟨_, rfl⟩
  have HL := Hid.mk' (fun w => length_any m n w hm0 hm1 hn0 hn1)
  rw [← hS] at h1 h2
  have HS := Hid.mk' hS
  clear hS
  go_enter Yba.func9, Yba.ntmps9
  go_wp2_with fail
  refine (HL.out _).mono ?_
  rintro e w' ⟨rfl, rfl⟩
  rw [← HS.out]
  go_wp2_with fail
  go_ret
  exact ⟨ret_int (by unfold workI; rw [← HS.out]), rfl⟩

set_option maxHeartbeats 400000 in
theorem map_any (x : Int) (w : World) (h0 : 0 ≤ x) (h1 : x < 4294967296) : Calls Yba.prog 7 #[.int .u32 x] w fun e w' => e = .returned (.int .i64 (x % 16777216 + 1)) ∧ w' = w := by
  go_enter Yba.func7, Yba.ntmps7
  go_wp2
  go_ret
  exact ⟨rfl, rfl⟩

theorem work_swap (m n : Int) : workI m n = workI n m := by
  unfold workI
  rw [show m + n - 2 = n + m - 2 by omega]
  omega
theorem work_mono (m n : Int) (hm0 : 1 ≤ m) (hm1 : m ≤ 17000000) (hn0 : 1 ≤ n) (hn1 : n ≤ 17000000) : workI m n ≤ workI (m + 1) n := by
  have h := P2_mono (x := (m + n - 2).toNat) (y := (m + 1 + n - 2).toNat) (by omega) (by omega)
  unfold workI
  omega
theorem work_gt (m n : Int) : m + n < workI m n := by
  have h := P2_pos (m + n - 2).toNat
  unfold workI
  omega

set_option maxHeartbeats 400000 in
theorem law_mono (a0 a1 : Int) (w : World) (h0 : 0 ≤ a0) (h0' : a0 < 4294967296) (h1 : 0 ≤ a1) (h1' : a1 < 4294967296) : Calls Yba.prog 4 #[.int .u32 a0, .int .u32 a1] w fun e w' => e = .returned (.bool true) ∧ Grown w w' := by
  obtain ⟨m, hm⟩ : ∃ m, m = a0 % 16777216 + 1 := ⟨_, rfl⟩
  obtain ⟨n, hn⟩ : ∃ n, n = a1 % 16777216 + 1 := ⟨_, rfl⟩
  have HM := Hid.mk' (fun w => map_any a0 w h0 h0')
  have HN := Hid.mk' (fun w => map_any a1 w h1 h1')
  have Hm := Hid.mk' hm
  have Hn := Hid.mk' hn
  have m0 : 1 ≤ m := by omega
  have m1 : m ≤ 16777216 := by omega
  have n0 : 1 ≤ n := by omega
  have n1 : n ≤ 16777216 := by omega
  clear hm hn
  have e1 : (workI m n != workI n m) = false := by rw [work_swap m n]; simp
  have e2 : decide (workI m n ≤ workI (m + 1) n) = true := by simpa using work_mono m n m0 (by omega) n0 (by omega)
  have e3 := work_gt m n
  go_enter Yba.func4, Yba.ntmps4
  go_wp2_with fail
  refine (HM.out _).mono ?_
  rintro e w' ⟨rfl, rfl⟩
  rw [← Hm.out]
  go_wp2_with fail
  refine (HN.out _).mono ?_
  rintro e w' ⟨rfl, rfl⟩
  rw [← Hn.out]
  go_wp2_with fail
  refine (work_any m n _ m0 (by omega) n0 (by omega)).mono ?_
  rintro e w' ⟨rfl, rfl⟩
  go_wp2_with fail
  refine (work_any n m _ n0 (by omega) m0 (by omega)).mono ?_
  rintro e w' ⟨rfl, rfl⟩
  go_wp2_with fail
  refine (work_any (m + 1) n _ (by omega) (by omega) n0 (by omega)).mono ?_
  rintro e w' ⟨rfl, rfl⟩
  go_wp2_with fail
  go_ret
  exact ⟨rfl, Grown.refl _⟩
end Go.Proofs.Ybulkamha
