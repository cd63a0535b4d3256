import Derived.Test.YbulkamhaMul
namespace Go.Proofs.Ybulkamha
open Go.ChangeShapes Go.WideShapes Go.ChangeAt Go.RowKit

theorem mulI_word (p pinv x y : Int) (x0 : 0 ≤ x) (x1 : x < 18446744073709551616) (y0 : 0 ≤ y) (y1 : y < 18446744073709551616) (p0 : 0 ≤ p) : 0 ≤ mulI p pinv x y ∧ mulI p pinv x y < 18446744073709551616 := by
  have H1 : hiW x y < 18446744073709551616 := by
    unfold hiW
    have : x * y ≤ 18446744073709551615 * y := Int.mul_le_mul_of_nonneg_right (by omega) y0
    omega
  have G0 : 0 ≤ hiW (mW pinv x y) p := by unfold hiW; exact Int.ediv_nonneg (Int.mul_nonneg (by unfold mW; omega) p0) (by omega)
  unfold mulI
  split <;> omega

/-- The struct in block b. -/
structure Md (w : World) (b : Nat) (p pinv r2 : Int) : Prop where
  c0 : w.cell? ⟨b, 0, none⟩ = some (.int .u64 p)
  c1 : w.cell? ⟨b, 1, none⟩ = some (.int .u64 pinv)
  c2 : w.cell? ⟨b, 2, none⟩ = some (.int .u64 r2)
  p0 : 0 ≤ p
  p1 : p < 18446744073709551616
  r0 : 0 ≤ r2
  r1 : r2 < 18446744073709551616
theorem Md.drewN {w : World} {b : Nat} {p pinv r2 : Int} (h : Md w b p pinv r2) (n : Nat) : Md (w.drewN n) b p pinv r2 := ⟨h.c0, h.c1, h.c2, h.p0, h.p1, h.r0, h.r1⟩

set_option maxHeartbeats 1000000 in
theorem mont_any (b : Nat) (p pinv r2 x : Int) (w : World) (hm : Md w b p pinv r2) (x0 : 0 ≤ x) (x1 : x < 18446744073709551616) :
    Calls Yba.prog 17 #[.pointer (some ⟨b, 0, none⟩), .int .u64 x] w fun e w' => e = .returned (.int .u64 (mulI p pinv x r2)) ∧ ∃ n, w' = w.drewN n := by
  have c2 := hm.c2
  have HC := Hid.mk' (mul_any b p pinv x r2 w hm.c0 hm.c1 hm.p0 hm.p1 x0 x1 hm.r0 hm.r1)
  clear hm
  go_enter Yba.func17, Yba.ntmps17
  go_wp2_with fail
  refine HC.out.mono ?_
  rintro e w' ⟨rfl, n, rfl⟩
  go_wp2_with fail
  go_ret
  exact ⟨rfl, _, rfl⟩

set_option maxHeartbeats 1000000 in
theorem scale_any (b : Nat) (p pinv r2 s : Int) (w : World) (hm : Md w b p pinv r2) (p2 : 1 ≤ p) (s0 : 1 ≤ s) (s1 : s ≤ 9007199254740992) :
    Calls Yba.prog 12 #[.pointer (some ⟨b, 0, none⟩), .int .i64 s] w fun e w' => e = .returned (.int .u64 (mulI p pinv (mulI p pinv (p - (p - 1) / s) r2) r2)) ∧ ∃ n, w' = w.drewN n := by
  have c0 := hm.c0
  have p0 := hm.p0
  have p1 := hm.p1
  have q0 : 0 ≤ (p - 1) / s := Int.ediv_nonneg (by omega) (by omega)
  have q1 : (p - 1) / s ≤ p - 1 := Int.ediv_le_self _ (by omega)
  have w1 := mulI_word p pinv (p - (p - 1) / s) r2 (by omega) (by omega) hm.r0 hm.r1 p0
  have HA := Hid.mk' (fun n => mont_any b p pinv r2 (p - (p - 1) / s) (w.drewN n) (hm.drewN n) (by omega) (by omega))
  have HB := Hid.mk' (fun n => mont_any b p pinv r2 (mulI p pinv (p - (p - 1) / s) r2) (w.drewN n) (hm.drewN n) w1.1 w1.2)
  have s2 : s ≠ 0 := by omega
  have t1 : (p - 1).tdiv s = (p - 1) / s := Int.tdiv_eq_ediv_of_nonneg (by omega)
  clear hm w1
  go_enter Yba.func12, Yba.ntmps12
  go_wp2_with fail
  go_quiet (fail)
  go_wp2_with fail
  refine (HA.out _).mono ?_
  rintro e w' ⟨rfl, n, rfl⟩
  go_wp2_with fail
  refine (HB.out _).mono ?_
  rintro e w' ⟨rfl, n2, rfl⟩
  go_wp2_with fail
  go_ret
  exact ⟨rfl, _, rfl⟩

set_option maxHeartbeats 1000000 in
theorem pow_any (b : Nat) (p pinv r2 x e0 : Int) (w : World) (hm : Md w b p pinv r2) (x0 : 0 ≤ x) (x1 : x < 18446744073709551616) (e00 : 0 ≤ e0) (e01 : e0 < 18446744073709551616) :
    Calls Yba.prog 16 #[.pointer (some ⟨b, 0, none⟩), .int .u64 x, .int .u64 e0] w fun e w' => (∃ r, 0 ≤ r ∧ r < 18446744073709551616 ∧ e = .returned (.int .u64 r)) ∧ ∃ n, w' = w.drewN n := by
  have HA := Hid.mk' (mont_any b p pinv r2 1 w hm (by omega) (by omega))
  have w1 := mulI_word p pinv 1 r2 (by omega) (by omega) hm.r0 hm.r1 hm.p0
  have p0 := hm.p0
  have HM := Hid.mk' (fun x y n x0 x1 y0 y1 => mul_any b p pinv x y (w.drewN n) hm.c0 hm.c1 hm.p0 hm.p1 x0 x1 y0 y1)
  clear hm
  go_enter Yba.func16, Yba.ntmps16
  go_wp2_with fail
  refine HA.out.mono ?_
  rintro e w' ⟨rfl, n, rfl⟩
  go_wp2_with fail
  go_loopw [7, 1, 2] (fun vr va ve wr => ∃ r a ee : Int, ∃ n, vr = .int .u64 r ∧ va = .int .u64 a ∧ ve = .int .u64 ee ∧ 0 ≤ r ∧ r < 18446744073709551616 ∧ 0 ≤ a ∧ a < 18446744073709551616 ∧ 0 ≤ ee ∧ ee < 18446744073709551616 ∧ wr = w.drewN n) (fun _ _ ve _ => (intOf ve).toNat)
  case atStart => exact ⟨_, _, _, _, rfl, rfl, rfl, w1.1, w1.2, x0, x1, e00, e01, rfl⟩
  case round =>
    clear HA
    obtain ⟨r, a, ee, n, rfl, rfl, rfl, r0, r1, a0, a1, f0, f1, rfl⟩ := hrel
    by_cases hz : ee = 0
    · subst hz
      go_wp2_with fail
      go_ret
      exact ⟨⟨r, r0, r1, rfl⟩, _, rfl⟩
    · have hzb : (ee != 0) = true := by simpa using hz
      have wa := mulI_word p pinv a a a0 a1 a0 a1 p0
      have wr' := mulI_word p pinv r a r0 r1 a0 a1 p0
      by_cases hb : bits BinOp.and IntKind.u64 ee 1 = 0
      · go_wp2_with fail
        refine (HM.out _ _ _ a0 a1 a0 a1).mono ?_
        rintro e w' ⟨rfl, m, rfl⟩
        go_wp2_with fail
        go_roundw
        case rel => exact ⟨_, _, _, _, rfl, rfl, rfl, r0, r1, wa.1, wa.2, by omega, by omega, rfl⟩
        case measure => simp [intOf]; omega
      · have hbb : (bits BinOp.and IntKind.u64 ee 1 != 0) = true := by simpa using hb
        go_wp2_with fail
        refine (HM.out _ _ _ r0 r1 a0 a1).mono ?_
        rintro e w' ⟨rfl, m, rfl⟩
        rw [World.drewN_drewN]
        go_wp2_with fail
        refine (HM.out _ _ _ a0 a1 a0 a1).mono ?_
        rintro e w' ⟨rfl, m2, rfl⟩
        go_wp2_with fail
        go_roundw
        case rel => exact ⟨_, _, _, _, rfl, rfl, rfl, wr'.1, wr'.2, wa.1, wa.2, by omega, by omega, rfl⟩
        case measure => simp [intOf]; omega
end Go.Proofs.Ybulkamha
