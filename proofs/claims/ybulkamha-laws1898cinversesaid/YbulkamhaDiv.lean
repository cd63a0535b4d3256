import Derived.Test.YbulkamhaWork
import Derived.BigQuiet
import Derived.Laws.Bits64b
import Derived.Deep.CutBlock
import Derived.Deep.DeepCutAuto
namespace Go.Proofs.Ybulkamha
open Go.ChangeShapes Go.WideShapes Go.ChangeAt Go.RowKit

theorem bitLen62 {y : Nat} (h0 : 2305843009213693952 ≤ y) (h1 : y < 4611686018427387904) : Lib.bitLen y = 62 := by
  have a := Lib.bitLen_le y 62 (by omega) (by omega)
  have b := lt_bitLen 64 y (by omega) (by omega)
  by_cases h : Lib.bitLen y ≤ 61
  · have : 2 ^ Lib.bitLen y ≤ 2 ^ 61 := Nat.pow_le_pow_right (by omega) h
    omega
  · omega

theorem lz2 (y : Int) (w : World) (h0 : 2305843009213693952 ≤ y) (h1 : y < 4611686018427387904) :
    Calls Yba.prog 21 #[.int .u64 y] w fun e w' => e = .returned (.int .i64 2) ∧ w' = w := by
  refine (Yba.bits_LeadingZeros64 y w (by omega) (by omega)).mono ?_
  rintro e w' ⟨rfl, rfl⟩
  refine ⟨ret_int ?_, rfl⟩
  rw [bitLen62 (by omega) (by omega)]; rfl

theorem go_on {P : Program} {c : Code} {Q : Exit → Act → World → Prop} {K : Act → World → Prop} {a : Act} {w : World} (h : ∀ a w, c.wp P Q a w → K a w) (hc : c.wp P Q a w) : K a w := h a w hc

/-! ### Plain: one digit of the division, by trial -/
def Trial (U N Y A q r : Int) : Prop := 0 ≤ q ∧ 0 ≤ r ∧ q * A + r = U ∧ U * 4294967296 + N < (q + 1) * Y
def Digit (U N Y q : Int) : Prop := 0 ≤ q ∧ q * Y ≤ U * 4294967296 + N ∧ U * 4294967296 + N < (q + 1) * Y
structure Side (U N Y A D : Int) : Prop where
  y : Y = A * 4294967296 + D
  a0 : 2147483648 ≤ A
  a1 : A < 4294967296
  d0 : 0 ≤ D
  d1 : D < 4294967296
  u0 : 0 ≤ U
  u1 : U < Y
  n0 : 0 ≤ N
  n1 : N < 4294967296
theorem Trial.first {U N Y A D : Int} (s : Side U N Y A D) : Trial U N Y A (U / A) (U - U / A * A) := by
  obtain ⟨y, a0, a1, d0, d1, u0, u1, n0, n1⟩ := s
  have h1 := Int.mul_ediv_add_emod U A
  have h2 := Int.emod_nonneg U (show A ≠ 0 by omega)
  have h3 := Int.emod_lt_of_pos U (show 0 < A by omega)
  have h4 : 0 ≤ U / A := Int.ediv_nonneg u0 (by omega)
  rw [Int.mul_comm] at h1
  refine ⟨h4, by omega, by omega, ?_⟩
  have h5 : (U / A + 1) * Y = (U / A + 1) * A * 4294967296 + (U / A + 1) * D := by rw [y, Int.mul_add, Int.mul_assoc]
  have h6 : (U / A + 1) * A = U / A * A + A := by rw [Int.add_mul, Int.one_mul]
  have h7 : 0 ≤ (U / A + 1) * D := Int.mul_nonneg (by omega) d0
  rw [h5, h6]; omega
theorem rem_small {U A : Int} (a0 : 2147483648 ≤ A) : U - U / A * A < A := by
  have h1 := Int.mul_ediv_add_emod U A
  have h3 := Int.emod_lt_of_pos U (show 0 < A by omega)
  rw [Int.mul_comm] at h1
  omega
theorem Trial.big {U N Y A D q : Int} (s : Side U N Y A D) (hq : 4294967296 ≤ q) : U * 4294967296 + N < q * Y := by
  obtain ⟨y, a0, a1, d0, d1, u0, u1, n0, n1⟩ := s
  have h : 4294967296 * Y ≤ q * Y := Int.mul_le_mul_of_nonneg_right hq (by omega)
  omega
theorem Trial.qY {U N Y A D q r : Int} (s : Side U N Y A D) (t : Trial U N Y A q r) : q * Y = (U - r) * 4294967296 + q * D := by
  rw [s.y, Int.mul_add, ← Int.mul_assoc, show q * A = U - r by have := t.2.2.1; omega]
theorem Trial.over {U N Y A D q r : Int} (s : Side U N Y A D) (t : Trial U N Y A q r) (h : 4294967296 * r + N < q * D) : U * 4294967296 + N < q * Y := by
  rw [t.qY s]; omega
theorem Trial.fits {U N Y A D q r : Int} (s : Side U N Y A D) (t : Trial U N Y A q r) (h : q * D ≤ 4294967296 * r + N) : Digit U N Y q := by
  have e := t.qY s
  obtain ⟨q0, r0, e1, e2⟩ := t
  exact ⟨q0, by rw [e]; omega, e2⟩
theorem Trial.next {U N Y A D q r : Int} (s : Side U N Y A D) (t : Trial U N Y A q r) (h : U * 4294967296 + N < q * Y) : Trial U N Y A (q - 1) (r + A) := by
  obtain ⟨q0, r0, e1, e2⟩ := t
  have hq : q ≠ 0 := by rintro rfl; have := s.u0; have := s.n0; omega
  have := s.a0
  refine ⟨by omega, by omega, ?_, ?_⟩
  · rw [Int.sub_mul]; omega
  · rw [show q - 1 + 1 = q by omega]; exact h
theorem Trial.broke {U N Y A D q r : Int} (s : Side U N Y A D) (t : Trial U N Y A q r) (h : 4294967296 ≤ r) : Digit U N Y q := by
  have e := t.qY s
  obtain ⟨y, a0, a1, d0, d1, u0, u1, n0, n1⟩ := s
  obtain ⟨q0, r0, e1, e2⟩ := t
  refine ⟨q0, ?_, e2⟩
  have hq : q < 4294967296 := by
    by_cases c : q < 4294967296
    · exact c
    · have : 4294967296 * A ≤ q * A := Int.mul_le_mul_of_nonneg_right (by omega) (by omega)
      omega
  have : q * D ≤ 4294967296 * D := Int.mul_le_mul_of_nonneg_right (by omega) d0
  rw [e]; omega
theorem Digit.rem {U N Y A D q : Int} (s : Side U N Y A D) (d : Digit U N Y q) : IntKind.u64.wrap (IntKind.u64.wrap (IntKind.u64.wrap (U * 4294967296) + N) - IntKind.u64.wrap (q * Y)) = U * 4294967296 + N - q * Y := by
  have y : Y < 18446744073709551616 := by have := s.y; have := s.a1; have := s.d1; omega
  obtain ⟨d0, d1, d2⟩ := d
  rw [Int.add_mul] at d2
  simp only [IntKind.wrap_u64]
  omega
theorem Digit.lt {U N Y q : Int} (d : Digit U N Y q) : 0 ≤ U * 4294967296 + N - q * Y ∧ U * 4294967296 + N - q * Y < Y := by
  obtain ⟨d0, d1, d2⟩ := d
  rw [Int.add_mul] at d2
  omega
theorem div_end {h l y U N N0 q q0 V R : Int} (hU : U * 18446744073709551616 + N * 4294967296 + N0 = 4 * (h * 18446744073709551616 + l)) (hV : V = U * 4294967296 + N - q * (y * 4)) (hR : R = V * 4294967296 + N0 - q0 * (y * 4)) (r0 : 0 ≤ R) (r1 : R < y * 4) : R / 4 = (h * 18446744073709551616 + l) % y := by
  have e : h * 18446744073709551616 + l = R / 4 + y * (q * 4294967296 + q0) := by
    have e1 : y * (q * 4294967296 + q0) = y * q * 4294967296 + y * q0 := by rw [Int.mul_add, Int.mul_assoc]
    have e2 : q * (y * 4) = y * q * 4 := by rw [← Int.mul_assoc, Int.mul_comm q y]
    have e3 : q0 * (y * 4) = y * q0 * 4 := by rw [← Int.mul_assoc, Int.mul_comm q0 y]
    rw [e1]; rw [e2] at hV; rw [e3] at hR
    omega
  rw [e, Int.add_mul_emod_self_left, Int.emod_eq_of_lt (by omega) (by omega)]
theorem or_shl {h x : Int} (h0 : 0 ≤ h) (h1 : h < 4611686018427387904) (x0 : 0 ≤ x) (x1 : x < 4) : bits BinOp.or IntKind.u64 (h * 4) x = h * 4 + x := by
  obtain ⟨m, rfl⟩ := Int.eq_ofNat_of_zero_le h0
  obtain ⟨n, rfl⟩ := Int.eq_ofNat_of_zero_le x0
  have e := bits_or_u64_nat (m * 4) n (by omega) (by omega)
  have o : m * 4 ||| n = m * 4 + n := by
    have := Nat.two_pow_add_eq_or_of_lt (i := 2) (b := n) (by omega) m
    rw [show (2 : Nat) ^ 2 * m = m * 4 by omega] at this
    exact this.symm
  rw [o] at e
  have c : ((m * 4 : Nat) : Int) = (m : Int) * 4 := by omega
  rw [c] at e
  exact e.trans (by omega)
theorem and_low {x : Int} (x0 : 0 ≤ x) (x1 : x < 18446744073709551616) : bits BinOp.and IntKind.u64 x 4294967295 = x % 4294967296 := by
  obtain ⟨m, rfl⟩ := Int.eq_ofNat_of_zero_le x0
  have e := bits_and_u64_nat m 4294967295 (by omega) (by omega)
  have o : m &&& 4294967295 = m % 4294967296 := Nat.and_two_pow_sub_one_eq_mod m 32
  rw [o] at e
  exact e.trans (by omega)

theorem mul_small {q D : Int} (q0 : 0 ≤ q) (q1 : q < 4294967296) (d0 : 0 ≤ D) (d1 : D < 4294967296) : q * D < 18446744073709551616 := by
  have : q * D ≤ 4294967295 * D := Int.mul_le_mul_of_nonneg_right (by omega) d0
  omega
theorem Trial.goes {U N Y A D q r : Int} (s : Side U N Y A D) (t : Trial U N Y A q r) (h : U * 4294967296 + N < q * Y) (hs : q < 4294967296 → q * D < 18446744073709551616) :
    4294967296 ≤ q ∨ (q < 4294967296 ∧ q * D < 18446744073709551616 ∧ 4294967296 * r + N < q * D) := by
  rw [t.qY s] at h
  by_cases c : q < 4294967296
  · exact Or.inr ⟨c, hs c, by omega⟩
  · exact Or.inl (by omega)
theorem Trial.stays {U N Y A D q r : Int} (s : Side U N Y A D) (t : Trial U N Y A q r) (h : ¬ U * 4294967296 + N < q * Y) : q < 4294967296 ∧ q * D ≤ 4294967296 * r + N := by
  have e := t.qY s
  by_cases c : q < 4294967296
  · exact ⟨c, by omega⟩
  · exact absurd (Trial.big s (by omega)) h
theorem Trial.begin {U N Y A D : Int} (s : Side U N Y A D) : ∃ q r : Int, Value.int .u64 (IntKind.u64.wrap (U.tdiv A)) = .int .u64 q ∧ Value.int .u64 (IntKind.u64.wrap (U - IntKind.u64.wrap (IntKind.u64.wrap (U.tdiv A) * A))) = .int .u64 r ∧ r < 4294967296 ∧ q < 18446744073709551616 ∧ Trial U N Y A q r := by
  have t := Trial.first s
  have rs := rem_small (U := U) s.a0
  obtain ⟨y, a0, a1, d0, d1, u0, u1, n0, n1⟩ := s
  have q0 := t.1
  have r0 := t.2.1
  have ql : U / A ≤ U := Int.ediv_le_self _ u0
  have p0 : 0 ≤ U / A * A := Int.mul_nonneg q0 (by omega)
  have e1 : IntKind.u64.wrap (U.tdiv A) = U / A := by
    rw [Int.tdiv_eq_ediv_of_nonneg u0, IntKind.wrap_u64]; omega
  refine ⟨U / A, U - U / A * A, by rw [e1], ?_, by omega, by omega, t⟩
  rw [e1, IntKind.wrap_u64, IntKind.wrap_u64]
  congr 1
  omega

set_option maxHeartbeats 1000000 in
theorem div_any (h l y : Int) (w : World) (h0 : 0 < h) (h1 : h < y) (l0 : 0 ≤ l) (l1 : l < 18446744073709551616) (y0 : 2305843009213693952 ≤ y) (y1 : y < 4611686018427387904) :
    Calls Yba.prog 18 #[.int .u64 h, .int .u64 l, .int .u64 y] w fun e w' => (∃ q, e = .returned (.tuple #[.int .u64 q, .int .u64 ((h * 18446744073709551616 + l) % y)])) ∧ w' = w := by
  have HL := Hid.mk' (fun w => lz2 y w y0 y1)
  have e1 : (y == 0) = false := by simp; omega
  have e2 : decide (y ≤ h) = false := by simp; omega
  have e3 : (h == 0) = false := by simp; omega
  go_enter Yba.func18, Yba.ntmps18
  go_wp2_with fail
  refine (HL.out _).mono ?_
  rintro e w' ⟨rfl, rfl⟩
  clear e1 e2 e3 HL
  go_upto_block 0 with (fail)
  have eU := or_shl (h := h) (x := l / 4611686018427387904) (by omega) (by omega) (by omega) (by omega)
  have eD := and_low (x := y * 4) (by omega) (by omega)
  have eM : IntKind.u64.wrap (l * 4) = l * 4 % 18446744073709551616 := IntKind.wrap_u64 _
  have eN := and_low (x := l * 4 % 18446744073709551616) (by omega) (by omega)
  rw [eU, eD, eM, eN]
  clear eU eD eM eN
  generalize hU : h * 4 + l / 4611686018427387904 = U
  generalize hD : y * 4 % 4294967296 = D
  generalize hA : y * 4 / 4294967296 = A
  generalize hN : l * 4 % 18446744073709551616 / 4294967296 = N
  generalize hN0 : l * 4 % 18446744073709551616 % 4294967296 = N0
  generalize hY : y * 4 = Y
  have Y4 := Hid.mk' hY
  have hs : Side U N Y A D := ⟨by omega, by omega, by omega, by omega, by omega, by omega, by omega, by omega, by omega⟩
  have S0 := Hid.mk' (Trial.begin hs)
  have HS0 := Hid.mk' hs
  have HU : Hid (U * 18446744073709551616 + N * 4294967296 + N0 = 4 * (h * 18446744073709551616 + l)) := Hid.mk' (by omega)
  have Y0 : 9223372036854775808 ≤ Y := by omega
  have Y1 : Y < 18446744073709551616 := by omega
  have A0 : 2147483648 ≤ A := by omega
  have M0 : 0 ≤ N0 := by omega
  have M1 : N0 < 4294967296 := by omega
  clear hU hD hA hN hN0 hY hs
  go_cut [15, 16] (fun vq vr wc => ∃ q r : Int, vq = .int .u64 q ∧ vr = .int .u64 r ∧ Digit U N Y q ∧ wc = w')
  case first =>
    go_wp2_with fail
    go_loop [15, 16] (fun vq vr => ∃ q r : Int, vq = .int .u64 q ∧ vr = .int .u64 r ∧ r < 4294967296 ∧ q < 18446744073709551616 ∧ Trial U N Y A q r) (fun _ vr => (4294967296 - intOf vr).toNat)
    case atStart => exact S0.out
    case round =>
      obtain ⟨q, r, rfl, rfl, r1, q1, t⟩ := hrel
      have q0 := t.1
      have r0 := t.2.1
      have d0 := HS0.out.d0
      have a0 := HS0.out.a0
      have a1 := HS0.out.a1
      have n0 := HS0.out.n0
      have n1 := HS0.out.n1
      have qd0 : 0 ≤ q * D := Int.mul_nonneg q0 d0
      have qd1 : q < 4294967296 → q * D < 18446744073709551616 := fun c => mul_small q0 c d0 HS0.out.d1
      have HT := Hid.mk' t
      by_cases c : U * 4294967296 + N < q * Y
      · have t2 := t.next HS0.out c
        have q2 := t2.1
        have HT2 := Hid.mk' t2
        have Hc := Hid.mk' c
        have c2 : 4294967296 ≤ q ∨ (q < 4294967296 ∧ q * D < 18446744073709551616 ∧ 4294967296 * r + N < q * D) := t.goes HS0.out c qd1
        clear t t2 c qd1
        by_cases c4 : 4294967296 ≤ r + A
        · rcases c2 with c3 | ⟨c3, c5, c6⟩
          all_goals (go_wp2_with fail; go_meet; case rel => exact ⟨_, _, rfl, rfl, HT2.out.broke HS0.out c4, rfl⟩)
        · rcases c2 with c3 | ⟨c3, c5, c6⟩
          all_goals
            go_wp2_with fail
            go_round
            case rel => exact ⟨_, _, rfl, rfl, by omega, by omega, HT2.out⟩
            case measure => simp [intOf]; omega
      · obtain ⟨c3, c6⟩ := t.stays HS0.out c
        have c5 := qd1 c3
        clear t c qd1
        go_wp2_with fail
        go_meet
        case rel => exact ⟨_, _, rfl, rfl, HT.out.fits HS0.out c6, rfl⟩
  case rest =>
    obtain ⟨q, rr, rfl, rfl, hd, rfl⟩ := hcut
    have q0 := hd.1
    have HR := Hid.mk' (hd.rem HS0.out)
    have HV := Hid.mk' hd.lt
    clear hd S0
    refine go_on (by assumption) ?_
    go_upto_block 2 with (fail)
    rw [HR.out]
    generalize hV : U * 4294967296 + N - q * Y = V
    obtain ⟨w', rfl⟩ : ∃ x : World, x = wc := ⟨_, rfl⟩
    have hv := HV.out
    rw [hV] at hv
    have HV2 := Hid.mk' hV
    have hs : Side V N0 Y A D := ⟨HS0.out.y, HS0.out.a0, HS0.out.a1, HS0.out.d0, HS0.out.d1, hv.1, hv.2, M0, M1⟩
    have S2 := Hid.mk' (Trial.begin hs)
    have HS2 := Hid.mk' hs
    clear hV hv hs HR HV HS0
    go_cut [18, 16] (fun vq vr wc => ∃ q r : Int, vq = .int .u64 q ∧ vr = .int .u64 r ∧ Digit V N0 Y q ∧ wc = w')
    case first =>
      go_wp2_with fail
      go_loop [18, 16] (fun vq vr => ∃ q r : Int, vq = .int .u64 q ∧ vr = .int .u64 r ∧ r < 4294967296 ∧ q < 18446744073709551616 ∧ Trial V N0 Y A q r) (fun _ vr => (4294967296 - intOf vr).toNat)
      case atStart => exact S2.out
      case round =>
        obtain ⟨q, r, rfl, rfl, r1, q1, t⟩ := hrel
        have q0 := t.1
        have r0 := t.2.1
        have d0 := HS2.out.d0
        have a0 := HS2.out.a0
        have a1 := HS2.out.a1
        have n0 := HS2.out.n0
        have n1 := HS2.out.n1
        have qd0 : 0 ≤ q * D := Int.mul_nonneg q0 d0
        have qd1 : q < 4294967296 → q * D < 18446744073709551616 := fun c => mul_small q0 c d0 HS2.out.d1
        have HT := Hid.mk' t
        by_cases c : V * 4294967296 + N0 < q * Y
        · have t2 := t.next HS2.out c
          have q2 := t2.1
          have HT2 := Hid.mk' t2
          have Hc := Hid.mk' c
          have c2 : 4294967296 ≤ q ∨ (q < 4294967296 ∧ q * D < 18446744073709551616 ∧ 4294967296 * r + N0 < q * D) := t.goes HS2.out c qd1
          clear t t2 c qd1
          by_cases c4 : 4294967296 ≤ r + A
          · rcases c2 with c3 | ⟨c3, c5, c6⟩
            all_goals (go_wp2_with fail; go_meet; case rel => exact ⟨_, _, rfl, rfl, HT2.out.broke HS2.out c4, rfl⟩)
          · rcases c2 with c3 | ⟨c3, c5, c6⟩
            all_goals
              go_wp2_with fail
              go_round
              case rel => exact ⟨_, _, rfl, rfl, by omega, by omega, HT2.out⟩
              case measure => simp [intOf]; omega
        · obtain ⟨c3, c6⟩ := t.stays HS2.out c
          have c5 := qd1 c3
          clear t c qd1
          go_wp2_with fail
          go_meet
          case rel => exact ⟨_, _, rfl, rfl, HT.out.fits HS2.out c6, rfl⟩
    case rest =>
      obtain ⟨q2, r2, rfl, rfl, hd, rfl⟩ := hcut
      have q20 := hd.1
      have HR := Hid.mk' (hd.rem HS2.out)
      have hl := hd.lt
      have HD : Hid ((V * 4294967296 + N0 - q2 * Y) / 4 = (h * 18446744073709551616 + l) % y) := by
        refine Hid.mk' ?_
        have e := HV2.out
        rw [← Y4.out] at e hl ⊢
        exact div_end HU.out e.symm rfl hl.1 hl.2
      have HL := Hid.mk' hl
      clear hd S2 hl
      refine go_on (by assumption) ?_
      go_wp2_with fail
      go_ret2
      rw [HR.out, HD.out]
      exact ⟨⟨_, rfl⟩, rfl⟩
end Go.Proofs.Ybulkamha
