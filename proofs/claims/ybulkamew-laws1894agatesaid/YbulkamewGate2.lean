import Derived.Test.YbulkamewGate1
import Derived.Test.YbulkamewTail
namespace Go.Proofs.Ybulkamew
open Go.ChangeShapes Go.WideShapes Go.ChangeAt Go.RowKit

set_option maxRecDepth 100000 in
set_option maxHeartbeats 1600000 in
/-- The law's closure mk: a row of terms out of bytes. -/
theorem mkTerms (B p5 p6 n c : Nat) (a : Option Addr) (f : Nat → Nat) (w : World) (hn : n ≤ 1024) (hA : ArgIs w a n f) (hP : Pool B w) (c5 : w.cell? ⟨p5, 0, none⟩ = some (.slice (some ⟨B + 4, 0, none⟩) 4 4)) (c6 : w.cell? ⟨p6, 0, none⟩ = some (.slice (some ⟨B + 7, 0, none⟩) 2 2)) :
    Calls Yba.prog 7 #[.slice a n c, .pointer (some ⟨p5, 0, none⟩), .pointer (some ⟨p6, 0, none⟩)] w fun r w' => r = .returned (.slice (some ⟨w.heap.size, 0, none⟩) n n) ∧ Fill w' w.heap.size (n * 7) (n * 7) (termG B (fun j => f j % 4) (fun j => f j / 4 % 2)) ∧ Below w.heap.size w w' := by
  have hmk := fun w => mk28 n (by omega) w
  have l5 : p5 < w.heap.size := World.block_lt_of_cell? w _ c5
  have l6 : p6 < w.heap.size := World.block_lt_of_cell? w _ c6
  have hA0 : Fill (w.alloc (.cells (madeCells #[.nilIface, .pointer none, .pointer none, .pointer none, .pointer none, .bool false, .int .i32 0] (n * 7)) 35)) w.heap.size (n * 7) 0 (termG B (fun j => f j % 4) (fun j => f j / 4 % 2)) := (Arr.made w _ (n * 7) 35).fill _
  have HS := Hid.mk' hA0
  clear hA0
  go_enter Yba.func7, Yba.ntmps7
  go_wp2
  go_loopw [13] (fun i wr => ∃ k : Nat, k ≤ n ∧ i = .int .i64 k ∧ Fill wr w.heap.size (n * 7) (k * 7) (termG B (fun j => f j % 4) (fun j => f j / 4 % 2)) ∧ Below w.heap.size w wr) (fun i _ => n - (intOf i).toNat)
  case atStart => exact ⟨0, Nat.zero_le _, rfl, by simpa using HS.out, (Below.refl _ _).alloc (Nat.le_refl _) _⟩
  case round =>
    clear HS hmk
    obtain ⟨k, hk, rfl, hF, hbr⟩ := hrel
    by_cases hlt : k < n
    · have kP := hP.below hbr hP.size
      have hAr := hA.below hbr
      obtain ⟨x, rfl, xl, cx, bx⟩ := hAr k hlt
      have k5 : wr.cell? ⟨p5, 0, none⟩ = some (.slice (some ⟨B + 4, 0, none⟩) 4 4) := (hbr.cell (p := ⟨p5, 0, none⟩) l5).trans c5
      have k6 : wr.cell? ⟨p6, 0, none⟩ = some (.slice (some ⟨B + 7, 0, none⟩) 2 2) := (hbr.cell (p := ⟨p6, 0, none⟩) l6).trans c6
      obtain ⟨p, hp⟩ : ∃ p : Nat, p = f k % 4 := ⟨_, rfl⟩
      obtain ⟨q, hq⟩ : ∃ q : Nat, q = f k / 4 % 2 := ⟨_, rfl⟩
      have rp : ((f k : Nat) : Int) % 4 = (p : Int) := by omega
      have rq : ((f k : Nat) : Int) / 4 % 2 = (q : Int) := by omega
      obtain ⟨s, hs⟩ : ∃ s : Nat, s = f k / 4 := ⟨_, rfl⟩
      have rp1 : ((f k : Nat) : Int).tmod 4 = (p : Int) := by rw [Int.tmod_eq_emod_of_nonneg (by omega)]; omega
      have rs1 : ((f k : Nat) : Int).tdiv 4 = (s : Int) := by rw [Int.tdiv_eq_ediv_of_nonneg (by omega)]; omega
      have rq1 : ((s : Nat) : Int).tmod 2 = (q : Int) := by rw [Int.tmod_eq_emod_of_nonneg (by omega)]; omega
      have wp1 : IntKind.i64.wrap (p : Int) = (p : Int) := by rw [IntKind.wrap_i64]; omega
      have wq1 : IntKind.i64.wrap (q : Int) = (q : Int) := by rw [IntKind.wrap_i64]; omega
      have ws1 : IntKind.u8.wrap (s : Int) = (s : Int) := by rw [IntKind.wrap_u8]; omega
      clear hs
      have kX := kP.e p (by omega)
      have kN := kP.n q (by omega)
      have p0 : (0 : Int) ≤ (p : Int) := by omega
      have p1 : (p : Int) < 4 := by omega
      have q0 : (0 : Int) ≤ (q : Int) := by omega
      have q1 : (q : Int) < 2 := by omega
      have i0 : (0 : Int) ≤ (k : Int) := by omega
      have i1 : (k : Int) < (n : Int) := by omega
      obtain ⟨v0, d0⟩ := hF.some (j := k * 7) (by omega)
      have g0 := hF.free (j := k * 7) (by omega)
      obtain ⟨v1, d1⟩ := hF.some (j := k * 7 + 1) (by omega)
      have g1 := hF.free (j := k * 7 + 1) (by omega)
      obtain ⟨v2, d2⟩ := hF.some (j := k * 7 + 2) (by omega)
      have g2 := hF.free (j := k * 7 + 2) (by omega)
      obtain ⟨v3, d3⟩ := hF.some (j := k * 7 + 3) (by omega)
      have g3 := hF.free (j := k * 7 + 3) (by omega)
      obtain ⟨v4, d4⟩ := hF.some (j := k * 7 + 4) (by omega)
      have g4 := hF.free (j := k * 7 + 4) (by omega)
      obtain ⟨v5, d5⟩ := hF.some (j := k * 7 + 5) (by omega)
      have g5 := hF.free (j := k * 7 + 5) (by omega)
      obtain ⟨v6, d6⟩ := hF.some (j := k * 7 + 6) (by omega)
      have g6 := hF.free (j := k * 7 + 6) (by omega)
      have lF := hF.lt
      have HF := Hid.mk' (And.intro hF (And.intro hbr (And.intro hp hq)))
      clear hF hP kP hbr hA hAr c5 c6 hp hq
      go_wp2
      refine region_tail 17 (by kernel_rfl) (by kernel_rfl) ?_
      simp only [List.take_succ_cons, List.take_zero, List.drop_succ_cons, List.drop_zero]
      repeat still_step
      refine wpStill_nil ?_
      go_wp2
      go_roundw
      case rel =>
        obtain ⟨hF, hbr, hp, hq⟩ := HF.out
        obtain ⟨t0, t1, t2, t3, t4, t5, t6⟩ := termG_at B (fun j => f j % 4) (fun j => f j / 4 % 2) k
        subst hp hq
        refine ⟨k + 1, by omega, by go_num, ?_, ?_⟩
        · rw [show (k + 1) * 7 = k * 7 + 1 + 1 + 1 + 1 + 1 + 1 + 1 by omega]
          exact (((((((hF.step (by omega) t0.symm).step (by omega) t1.symm).step (by omega) t2.symm).step (by omega) t3.symm).step (by omega) t4.symm).step (by omega) t5.symm).step (by omega) t6.symm).drew
        · exact (((((((hbr.setCell (by simp) _).setCell (by simp) _).setCell (by simp) _).setCell (by simp) _).setCell (by simp) _).setCell (by simp) _).setCell (by simp) _).drew
      case measure => simp [intOf]; omega
    · have hkn : k = n := by omega
      subst hkn
      have HF := Hid.mk' (And.intro hF hbr)
      clear hF hP hbr hA
      go_wp2
      go_ret
      exact ⟨rfl, HF.out.1, HF.out.2⟩
end Go.Proofs.Ybulkamew
