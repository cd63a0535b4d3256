import Derived.Test.YbulkamhaRem
import Derived.Shelf.Spec.BitsCarry
namespace Go.Proofs.Ybulkamha
open Go.ChangeShapes Go.WideShapes Go.ChangeAt Go.RowKit

theorem mul64 (x y : Int) (x0 : 0 ≤ x) (x1 : x < 18446744073709551616) (y0 : 0 ≤ y) (y1 : y < 18446744073709551616) (w : World) :
    Calls Yba.prog 13 #[.int .u64 x, .int .u64 y] w fun e w' => e = .returned (.tuple #[.int .u64 (x * y / 18446744073709551616), .int .u64 (x * y % 18446744073709551616)]) ∧ w' = w := by
  obtain ⟨a, rfl⟩ := Int.eq_ofNat_of_zero_le x0
  obtain ⟨b, rfl⟩ := Int.eq_ofNat_of_zero_le y0
  refine (Yba.bits_Mul64 a b (by omega) (by omega) w).mono ?_
  rintro e w' ⟨rfl, rfl⟩
  refine ⟨?_, rfl⟩
  rw [Int.natCast_ediv, Int.natCast_emod, Int.natCast_mul]
  rfl

theorem sub64_run (x y : Int) (x0 : 0 ≤ x) (y0 : 0 ≤ y) (w : World) (hy : y < 18446744073709551616) : (callFunc 24 #[.int .u64 x, .int .u64 y, .int .u64 0]).run Yba.prog w =
    .ok (.value (.tuple #[.int .u64 ((x - y) % 18446744073709551616), .int .u64 (if x < y then 1 else 0)])) w := by
  obtain ⟨a, rfl⟩ := Int.eq_ofNat_of_zero_le x0
  obtain ⟨b, rfl⟩ := Int.eq_ofNat_of_zero_le y0
  have e1 : (((a + 18446744073709551616 - b - 0) % 18446744073709551616 : Nat) : Int) = ((a : Int) - b) % 18446744073709551616 := by omega
  have e2 : ((if a < b + 0 then 1 else 0 : Nat) : Int) = if (a : Int) < b then 1 else 0 := by split <;> split <;> omega
  rw [← e1, ← e2]
  have h : (sub64Entry #[.int .u64 a, .int .u64 b, .int .u64 0]).run Yba.prog w = _ := run_sub64 (P := Yba.prog) a b 0 (by omega) w
  rw [run_callFunc_extern Yba.func24 (by kernel_rfl) (by kernel_rfl) (by kernel_rfl) (e := sub64Entry) (by kernel_rfl), h]
  rfl

def hiW (a b : Int) : Int := a * b / 18446744073709551616
def loW (a b : Int) : Int := a * b % 18446744073709551616
def mW (pinv a b : Int) : Int := loW a b * pinv % 18446744073709551616
/-- Montgomery's product. -/
def mulI (p pinv a b : Int) : Int := if hiW a b < hiW (mW pinv a b) p then ((hiW a b - hiW (mW pinv a b) p) % 18446744073709551616 + p) % 18446744073709551616 else hiW a b - hiW (mW pinv a b) p

set_option maxHeartbeats 1000000 in
theorem mul_any (b : Nat) (p pinv x y : Int) (w : World) (c0 : w.cell? ⟨b, 0, none⟩ = some (.int .u64 p)) (c1 : w.cell? ⟨b, 1, none⟩ = some (.int .u64 pinv))
    (p0 : 0 ≤ p) (p1 : p < 18446744073709551616) (x0 : 0 ≤ x) (x1 : x < 18446744073709551616) (y0 : 0 ≤ y) (y1 : y < 18446744073709551616) :
    Calls Yba.prog 20 #[.pointer (some ⟨b, 0, none⟩), .int .u64 x, .int .u64 y] w fun e w' => e = .returned (.int .u64 (mulI p pinv x y)) ∧ ∃ n, w' = w.drewN n := by
  obtain ⟨H, hH⟩ : ∃ H, H = hiW x y := ⟨_, rfl⟩
  obtain ⟨L, hL⟩ : ∃ L, L = loW x y := ⟨_, rfl⟩
  have L0 : 0 ≤ L := by rw [hL]; unfold loW; omega
  have L1 : L < 18446744073709551616 := by rw [hL]; unfold loW; omega
  have HM : Hid (∀ w, Calls Yba.prog 13 #[.int .u64 x, .int .u64 y] w fun e w' => e = .returned (.tuple #[.int .u64 H, .int .u64 L]) ∧ w' = w) := by
    rw [hH, hL]; exact Hid.mk' (mul64 x y x0 x1 y0 y1)
  obtain ⟨G, hG⟩ : ∃ G, G = hiW (mW pinv x y) p := ⟨_, rfl⟩
  obtain ⟨G2, hG2⟩ : ∃ G, G = loW (mW pinv x y) p := ⟨_, rfl⟩
  have HM2 : Hid (∀ w, Calls Yba.prog 13 #[.int .u64 (IntKind.u64.wrap (L * pinv)), .int .u64 p] w fun e w' => e = .returned (.tuple #[.int .u64 G, .int .u64 G2]) ∧ w' = w) := by
    rw [hG, hG2, hL, IntKind.wrap_u64]; exact Hid.mk' (mul64 _ p (by omega) (by omega) p0 p1)
  have HR : Hid (mulI p pinv x y = if H < G then ((H - G) % 18446744073709551616 + p) % 18446744073709551616 else H - G) := by
    rw [hH, hG]; exact Hid.mk' rfl
  have H0 : 0 ≤ H := by rw [hH]; unfold hiW; exact Int.ediv_nonneg (Int.mul_nonneg x0 y0) (by omega)
  have G0 : 0 ≤ G := by rw [hG]; unfold hiW; exact Int.ediv_nonneg (Int.mul_nonneg (by unfold mW; omega) p0) (by omega)
  have G1 : G < 18446744073709551616 := by
    rw [hG]; unfold hiW
    have : mW pinv x y * p ≤ 18446744073709551615 * p := Int.mul_le_mul_of_nonneg_right (by unfold mW; omega) p0
    omega
  have H1 : H < 18446744073709551616 := by
    rw [hH]; unfold hiW
    have : x * y ≤ 18446744073709551615 * y := Int.mul_le_mul_of_nonneg_right (by omega) y0
    omega
  clear hH hL hG hG2
  by_cases hlt : H < G
  · have HS : Hid (∀ w, (callFunc 24 #[.int .u64 H, .int .u64 G, .int .u64 0]).run Yba.prog w = .ok (.value (.tuple #[.int .u64 ((H - G) % 18446744073709551616), .int .u64 1])) w) :=
      Hid.mk' fun w => by rw [sub64_run H G H0 G0 w G1, if_pos hlt]
    have hb : bits BinOp.and IntKind.u64 p 18446744073709551615 = p := by
      obtain ⟨m, rfl⟩ := Int.eq_ofNat_of_zero_le p0
      have e := bits_and_u64_nat m 18446744073709551615 (by omega) (by omega)
      have o : m &&& 18446744073709551615 = m % 18446744073709551616 := Nat.and_two_pow_sub_one_eq_mod m 64
      rw [o] at e
      exact e.trans (by omega)
    rw [HR.out, if_pos hlt]
    obtain ⟨X, hX⟩ : ∃ X, X = (H - G) % 18446744073709551616 := ⟨_, rfl⟩
    have X0 : 0 ≤ X := by omega
    have X1 : X < 18446744073709551616 := by omega
    rw [← hX] at HS ⊢
    clear hX hlt HR
    go_enter Yba.func20, Yba.ntmps20
    go_wp2_with fail
    refine (HM.out _).mono ?_
    rintro e w' ⟨rfl, rfl⟩
    go_wp2_with fail
    go_quiet (refine Calls.quiet_of_same (HM2.out _))
    go_wp2_with (simp only [HS.out])
    go_ret
    exact ⟨ret_int (by rw [show IntKind.u64.wrap (-1) = 18446744073709551615 by rw [IntKind.wrap_u64]; rfl, hb, IntKind.wrap_u64]), _, rfl⟩
  · have HS : Hid (∀ w, (callFunc 24 #[.int .u64 H, .int .u64 G, .int .u64 0]).run Yba.prog w = .ok (.value (.tuple #[.int .u64 (H - G), .int .u64 0])) w) :=
      Hid.mk' fun w => by rw [sub64_run H G H0 G0 w G1, if_neg hlt, show (H - G) % 18446744073709551616 = H - G by omega]
    have hb : bits BinOp.and IntKind.u64 p 0 = 0 := by
      obtain ⟨m, rfl⟩ := Int.eq_ofNat_of_zero_le p0
      have e := bits_and_u64_nat m 0 (by omega) (by omega)
      rw [Nat.and_zero] at e
      exact e
    rw [HR.out, if_neg hlt]
    obtain ⟨X, hX⟩ : ∃ X, X = H - G := ⟨_, rfl⟩
    have X0 : 0 ≤ X := by omega
    have X1 : X < 18446744073709551616 := by omega
    rw [← hX] at HS ⊢
    clear hX hlt HR
    go_enter Yba.func20, Yba.ntmps20
    go_wp2_with fail
    refine (HM.out _).mono ?_
    rintro e w' ⟨rfl, rfl⟩
    go_wp2_with fail
    go_quiet (refine Calls.quiet_of_same (HM2.out _))
    go_wp2_with (simp only [HS.out])
    go_ret
    exact ⟨rfl, _, rfl⟩
end Go.Proofs.Ybulkamha
