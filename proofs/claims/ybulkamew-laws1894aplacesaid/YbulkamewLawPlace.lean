import Derived.Test.YbulkamewTail
import Derived.Test.YbulkamewT6
namespace Go.Proofs.Ybulkamew
open Go.ChangeShapes Go.WideShapes Go.ChangeAt Go.RowKit

set_option maxRecDepth 100000 in
set_option maxHeartbeats 1600000 in
theorem law_place (a0 : Option Addr) (n0 c0 : Nat) (f0 : Nat → Nat) (a1 : Option Addr) (n1 c1 : Nat) (f1 : Nat → Nat) (a2 : Option Addr) (n2 c2 : Nat) (f2 : Nat → Nat) (a3 : Option Addr) (n3 c3 : Nat) (f3 : Nat → Nat) (a4 : Option Addr) (n4 c4 : Nat) (f4 : Nat → Nat) (w : World)
    (h0 : ArgIs w a0 n0 f0) (h1 : ArgIs w a1 n1 f1) (h2 : ArgIs w a2 n2 f2) (h3 : ArgIs w a3 n3 f3) (h4 : ArgIs w a4 n4 f4) (l0 : n0 ≤ 256) (l1 : n1 ≤ 256) (l2 : n2 ≤ 256) (l3 : n3 ≤ 256) (l4 : n4 ≤ 256) :
    Calls Yba.prog 3 #[.slice a0 n0 c0, .slice a1 n1 c1, .slice a2 n2 c2, .slice a3 n3 c3, .slice a4 n4 c4] w (Post3 w.heap.size w) := by
  have hmk1 : ∀ w, (Instr.makeSlice 27 (.int .i64 0) (.int .i64 ((n0 : Int) + 1))).run Yba.prog w = .ok (.slice (some ⟨w.heap.size, 0, none⟩) 0 (n0 + 1)) (w.alloc (.cells (madeCells #[.int .i64 0] (n0 + 1)) 3)) := fun w => mk27 0 (n0 + 1) (by omega) (by omega) w
  go_enter Yba.func3, Yba.ntmps3
  go_wp2_with (go_at_call 5; refine (pool_any _).mono ?_; rintro e w1 ⟨rfl, hb1, hp1, hz1⟩)
  go_loopw [13, 73] (fun v i wr => ∃ k : Nat, k ≤ n0 ∧ i = .int .i64 k ∧ v = .slice (some ⟨w.heap.size + 8, 0, none⟩) k (n0 + 1) ∧
      Fill wr (w.heap.size + 8) (n0 + 1) k (fun j => .int .i64 ((f0 j : Int) % 2)) ∧ Below (w.heap.size + 8) w1 wr)
    (fun _ i _ => n0 - (intOf i).toNat)
  case atStart =>
    refine ⟨0, Nat.zero_le _, rfl, rfl, ?_, ?_⟩
    · have := (Arr.made w1 #[.int .i64 0] (n0 + 1) 3).fill (fun j => .int .i64 ((f0 j : Int) % 2))
      rw [hz1] at this
      exact this
    · exact (Below.refl _ _).alloc (by omega) _
  case round =>
    obtain ⟨k, hk, rfl, rfl, hown, hbr⟩ := hrel
    by_cases hlt : k < n0
    · obtain ⟨x, rfl, xl, cx, bx⟩ := h0 k hlt
      have cxr : wr.cell? (x.add k) = some (.int .u8 (f0 k)) := by
        rw [hbr.cell (by rw [block_add]; omega), hb1.cell (by rw [block_add]; exact xl)]; exact cx
      obtain ⟨v0, cv⟩ := hown.some (j := k) (by omega)
      have fv := hown.free (j := k) (by omega)
      have lv := hown.lt
      have hn8 := hbr.size
      go_wp2
      go_roundw
      case rel => exact ⟨k + 1, by omega, by go_num, rfl, (hown.step (by omega) rfl).alloc _, (hbr.setCell (by simp) _).alloc (by simp; omega) _⟩
      case measure => simp [intOf]; omega
    · have hkn : k = n0 := by omega
      subst hkn
      have hn8 := hbr.size
      have lv := hown.lt
      have Hf : Hid (Fill wr (w.heap.size + 8) (k + 1) k (fun j => .int .i64 ((f0 j : Int) % 2))) := hown
      go_upto_if 86 with (fail)
      go_cut [13] (fun v wc => ∃ (n : Nat) (e : Nat → Nat), 1 ≤ n ∧ n ≤ 256 ∧ (∀ j, e j < 2) ∧ v = .slice (some ⟨w.heap.size + 8, 0, none⟩) n (k + 1) ∧ Fill wc (w.heap.size + 8) n n (fun j => .int .i64 (e j)) ∧
          Below w.heap.size w wc ∧ Pool w.heap.size wc ∧ w.heap.size + 9 ≤ wc.heap.size)
      case first =>
        by_cases hk0 : k = 0
        · subst hk0
          obtain ⟨v0, cv⟩ := hown.some (j := 0) (by omega)
          have fv := hown.free (j := 0) (by omega)
          clear hown
          go_wp2
          go_meet
          case rel =>
            refine ⟨1, fun _ => 0, by omega, by omega, fun _ => (by show (0 : Nat) < 2; omega), rfl, ?_, ?_, ?_, ?_⟩
            · exact (((Hf.out.again (fun _ => .int .i64 ((0 : Nat) : Int))).step (by omega) rfl).alloc _)
            · exact hb1.trans (((hbr.mono (by omega)).setCell (by simp) _).alloc (by simp; omega) _)
            · exact hp1.below ((hbr.setCell (by simp) _).alloc (by simp; omega) _) (by omega)
            · simp; omega
        · have hk1 : ((k : Int) == 0) = false := by simpa using hk0
          clear hown
          go_wp2
          go_meet
          case rel =>
            refine ⟨k, fun j => f0 j % 2, by omega, by omega, fun j => (by show f0 j % 2 < 2; omega), rfl, ?_, ?_, ?_, ?_⟩
            · exact Hf.out.cut (by omega) (Nat.le_refl _) (fun j _ => by simp)
            · exact hb1.trans (hbr.mono (by omega))
            · exact hp1.below hbr (by omega)
            · omega
      case rest =>
        obtain ⟨n, e, hn1, hn2, he, rfl, hE, hbW, hPW, hzW⟩ := hcut
        refine go_on (by assumption) ?_
        exact t6 (Nat.le_refl _) hn1 hn2 he hE hPW hbW (h1.below hbW) (h2.below hbW) (h3.below hbW) (h4.below hbW) l1 l3
end Go.Proofs.Ybulkamew
