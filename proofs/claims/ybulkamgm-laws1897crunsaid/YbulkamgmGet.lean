import Derived.Test.YbulkamgmTable
import Derived.Lib.LazyBuf
namespace Go.Proofs.Ybulkamgm
open Go.ChangeShapes Go.WideShapes Go.ChangeAt Go.RowKit

set_option maxRecDepth 100000 in
set_option maxHeartbeats 800000 in
/-- zzs1897cget reads the table back: field 0. -/
theorem get8 (b n : Nat) (w : World) (hn : n ≤ 256) (hF : Fill w b n n (fun j => .int .u8 (j : Int))) :
    Calls Yba.prog 11 #[.agg #[.slice (some ⟨b, 0, none⟩) n n, .slice none 0 0, .slice none 0 0], .int .i64 n, .int .i64 ((n : Int) - 1)] w fun e w' => ∃ h : Nat, e = .returned (.tuple #[.slice (some ⟨h, 0, none⟩) n n, .bool true]) ∧ Fill w' h n n (fun j => .int .i64 (j : Int)) ∧ Below w.heap.size w w' := by
  have hmk := fun w => mk30 n (by omega) w
  have e32 := fun (a : Option Addr) (l c : Nat) (w : World) => run_eql_slice_nil (P := Yba.prog) w 32 5 a l c Yba.underlying32
  have e33 := fun (a : Option Addr) (l c : Nat) (w : World) => run_eql_slice_nil (P := Yba.prog) w 33 27 a l c Yba.underlying33
  have e30 := fun (a : Option Addr) (l c : Nat) (w : World) => run_eql_slice_nil (P := Yba.prog) w 30 3 a l c Yba.underlying30
  have q32 := fun (a : Option Addr) (l c : Nat) (w : World) => run_neq_slice_nil (P := Yba.prog) w 32 5 a l c Yba.underlying32
  have q33 := fun (a : Option Addr) (l c : Nat) (w : World) => run_neq_slice_nil (P := Yba.prog) w 33 27 a l c Yba.underlying33
  have q30 := fun (a : Option Addr) (l c : Nat) (w : World) => run_neq_slice_nil (P := Yba.prog) w 30 3 a l c Yba.underlying30
  have lF := hF.lt
  have F0 := (Arr.made (w.alloc (.cells #[.slice (some ⟨b, 0, none⟩) n n, .slice none 0 0, .slice none 0 0] 35)) #[.int .i64 0] n 3).fill (fun j => .int .i64 (j : Int))
  rw [World.size_alloc] at F0
  have B0 : Below w.heap.size w ((w.alloc (.cells #[.slice (some ⟨b, 0, none⟩) n n, .slice none 0 0, .slice none 0 0] 35)).alloc (.cells (madeCells #[.int .i64 0] n) 3)) := ((Below.refl _ _).alloc (Nat.le_refl _) _).alloc (by simp) _
  have C0 : ((w.alloc (.cells #[.slice (some ⟨b, 0, none⟩) n n, .slice none 0 0, .slice none 0 0] 35)).alloc (.cells (madeCells #[.int .i64 0] n) 3)).cell? ⟨w.heap.size, 0, none⟩ = some (.slice (some ⟨b, 0, none⟩) n n) := by
    rw [World.cell?_alloc_past _ _ _ (by simp), World.cell?_alloc_at _ _ _ _ rfl]; rfl
  have HF0 := Hid.mk' (And.intro F0 (And.intro B0 C0))
  have HF := Hid.mk' hF
  clear F0 B0 C0 hF
  go_enter Yba.func11, Yba.ntmps11
  go_wp2
  go_loopw [9] (fun ii wr => ∃ k : Nat, k ≤ n ∧ ii = .int .i64 k ∧ Fill wr (w.heap.size + 1) n k (fun j => .int .i64 (j : Int)) ∧ Below w.heap.size w wr ∧ wr.cell? ⟨w.heap.size, 0, none⟩ = some (.slice (some ⟨b, 0, none⟩) n n)) (fun ii _ => n - (intOf ii).toNat)
  case atStart => exact ⟨0, Nat.zero_le _, rfl, HF0.out.1, HF0.out.2.1, HF0.out.2.2⟩
  case round =>
    clear hmk e32 e33 e30 q32 q33 q30 HF0
    obtain ⟨k, hk, rfl, hO, hb, hc⟩ := hrel
    by_cases hlt : k < n
    · have cB := (HF.out.below hb lF).cell (j := k) hlt hlt
      obtain ⟨v0, d0⟩ := hO.some (j := k) hlt
      have g0 := hO.free (j := k) hlt
      have i0 : (0 : Int) ≤ (k : Int) := by omega
      have i1 : (k : Int) < (n : Int) := by omega
      have HO := Hid.mk' (And.intro hO (And.intro hb hc))
      clear hO hb
      go_wp2
      go_roundw
      case rel =>
        refine ⟨k + 1, by omega, by go_num, HO.out.1.step hlt rfl, HO.out.2.1.setCell (by simp) _, ?_⟩
        rw [World.cell?_setCell_other _ _ _ _ (fun he => by injection he with h1; omega)]; exact HO.out.2.2
      case measure => simp [intOf]; omega
    · have hkn : k = n := by omega
      subst hkn
      have HO := Hid.mk' (And.intro hO hb)
      clear hO hb
      go_wp2
      go_ret2
      exact ⟨w.heap.size + 1, rfl, HO.out.1, HO.out.2⟩
set_option maxRecDepth 100000 in
set_option maxHeartbeats 800000 in
/-- zzs1897cget reads the table back: field 1. -/
theorem get16 (b n : Nat) (w : World) (h0 : 256 < n) (hn : n ≤ 65536) (hF : Fill w b n n (fun j => .int .u16 (j : Int))) :
    Calls Yba.prog 11 #[.agg #[.slice none 0 0, .slice (some ⟨b, 0, none⟩) n n, .slice none 0 0], .int .i64 n, .int .i64 ((n : Int) - 1)] w fun e w' => ∃ h : Nat, e = .returned (.tuple #[.slice (some ⟨h, 0, none⟩) n n, .bool true]) ∧ Fill w' h n n (fun j => .int .i64 (j : Int)) ∧ Below w.heap.size w w' := by
  have hmk := fun w => mk30 n (by omega) w
  have e32 := fun (a : Option Addr) (l c : Nat) (w : World) => run_eql_slice_nil (P := Yba.prog) w 32 5 a l c Yba.underlying32
  have e33 := fun (a : Option Addr) (l c : Nat) (w : World) => run_eql_slice_nil (P := Yba.prog) w 33 27 a l c Yba.underlying33
  have e30 := fun (a : Option Addr) (l c : Nat) (w : World) => run_eql_slice_nil (P := Yba.prog) w 30 3 a l c Yba.underlying30
  have q32 := fun (a : Option Addr) (l c : Nat) (w : World) => run_neq_slice_nil (P := Yba.prog) w 32 5 a l c Yba.underlying32
  have q33 := fun (a : Option Addr) (l c : Nat) (w : World) => run_neq_slice_nil (P := Yba.prog) w 33 27 a l c Yba.underlying33
  have q30 := fun (a : Option Addr) (l c : Nat) (w : World) => run_neq_slice_nil (P := Yba.prog) w 30 3 a l c Yba.underlying30
  have lF := hF.lt
  have F0 := (Arr.made (w.alloc (.cells #[.slice none 0 0, .slice (some ⟨b, 0, none⟩) n n, .slice none 0 0] 35)) #[.int .i64 0] n 3).fill (fun j => .int .i64 (j : Int))
  rw [World.size_alloc] at F0
  have B0 : Below w.heap.size w ((w.alloc (.cells #[.slice none 0 0, .slice (some ⟨b, 0, none⟩) n n, .slice none 0 0] 35)).alloc (.cells (madeCells #[.int .i64 0] n) 3)) := ((Below.refl _ _).alloc (Nat.le_refl _) _).alloc (by simp) _
  have C0 : ((w.alloc (.cells #[.slice none 0 0, .slice (some ⟨b, 0, none⟩) n n, .slice none 0 0] 35)).alloc (.cells (madeCells #[.int .i64 0] n) 3)).cell? ⟨w.heap.size, 1, none⟩ = some (.slice (some ⟨b, 0, none⟩) n n) := by
    rw [World.cell?_alloc_past _ _ _ (by simp), World.cell?_alloc_at _ _ _ _ rfl]; rfl
  have HF0 := Hid.mk' (And.intro F0 (And.intro B0 C0))
  have HF := Hid.mk' hF
  clear F0 B0 C0 hF
  go_enter Yba.func11, Yba.ntmps11
  go_wp2
  go_loopw [10] (fun ii wr => ∃ k : Nat, k ≤ n ∧ ii = .int .i64 k ∧ Fill wr (w.heap.size + 1) n k (fun j => .int .i64 (j : Int)) ∧ Below w.heap.size w wr ∧ wr.cell? ⟨w.heap.size, 1, none⟩ = some (.slice (some ⟨b, 0, none⟩) n n)) (fun ii _ => n - (intOf ii).toNat)
  case atStart => exact ⟨0, Nat.zero_le _, rfl, HF0.out.1, HF0.out.2.1, HF0.out.2.2⟩
  case round =>
    clear hmk e32 e33 e30 q32 q33 q30 HF0
    obtain ⟨k, hk, rfl, hO, hb, hc⟩ := hrel
    by_cases hlt : k < n
    · have cB := (HF.out.below hb lF).cell (j := k) hlt hlt
      obtain ⟨v0, d0⟩ := hO.some (j := k) hlt
      have g0 := hO.free (j := k) hlt
      have i0 : (0 : Int) ≤ (k : Int) := by omega
      have i1 : (k : Int) < (n : Int) := by omega
      have HO := Hid.mk' (And.intro hO (And.intro hb hc))
      clear hO hb
      go_wp2
      go_roundw
      case rel =>
        refine ⟨k + 1, by omega, by go_num, HO.out.1.step hlt rfl, HO.out.2.1.setCell (by simp) _, ?_⟩
        rw [World.cell?_setCell_other _ _ _ _ (fun he => by injection he with h1; omega)]; exact HO.out.2.2
      case measure => simp [intOf]; omega
    · have hkn : k = n := by omega
      subst hkn
      have HO := Hid.mk' (And.intro hO hb)
      clear hO hb
      go_wp2
      go_ret2
      exact ⟨w.heap.size + 1, rfl, HO.out.1, HO.out.2⟩
set_option maxRecDepth 100000 in
set_option maxHeartbeats 800000 in
/-- zzs1897cget reads the table back: field 2. -/
theorem get64 (b n : Nat) (w : World) (h0 : 65536 < n) (hn : n ≤ 100000) (hF : Fill w b n n (fun j => .int .i64 (j : Int))) :
    Calls Yba.prog 11 #[.agg #[.slice none 0 0, .slice none 0 0, .slice (some ⟨b, 0, none⟩) n n], .int .i64 n, .int .i64 ((n : Int) - 1)] w fun e w' => ∃ h : Nat, e = .returned (.tuple #[.slice (some ⟨h, 0, none⟩) n n, .bool true]) ∧ Fill w' h n n (fun j => .int .i64 (j : Int)) ∧ Below w.heap.size w w' := by
  have hmk := fun w => mk30 n (by omega) w
  have e32 := fun (a : Option Addr) (l c : Nat) (w : World) => run_eql_slice_nil (P := Yba.prog) w 32 5 a l c Yba.underlying32
  have e33 := fun (a : Option Addr) (l c : Nat) (w : World) => run_eql_slice_nil (P := Yba.prog) w 33 27 a l c Yba.underlying33
  have e30 := fun (a : Option Addr) (l c : Nat) (w : World) => run_eql_slice_nil (P := Yba.prog) w 30 3 a l c Yba.underlying30
  have q32 := fun (a : Option Addr) (l c : Nat) (w : World) => run_neq_slice_nil (P := Yba.prog) w 32 5 a l c Yba.underlying32
  have q33 := fun (a : Option Addr) (l c : Nat) (w : World) => run_neq_slice_nil (P := Yba.prog) w 33 27 a l c Yba.underlying33
  have q30 := fun (a : Option Addr) (l c : Nat) (w : World) => run_neq_slice_nil (P := Yba.prog) w 30 3 a l c Yba.underlying30
  have lF := hF.lt
  have F0 := (Arr.made (w.alloc (.cells #[.slice none 0 0, .slice none 0 0, .slice (some ⟨b, 0, none⟩) n n] 35)) #[.int .i64 0] n 3).fill (fun j => .int .i64 (j : Int))
  rw [World.size_alloc] at F0
  have B0 : Below w.heap.size w ((w.alloc (.cells #[.slice none 0 0, .slice none 0 0, .slice (some ⟨b, 0, none⟩) n n] 35)).alloc (.cells (madeCells #[.int .i64 0] n) 3)) := ((Below.refl _ _).alloc (Nat.le_refl _) _).alloc (by simp) _
  have C0 : ((w.alloc (.cells #[.slice none 0 0, .slice none 0 0, .slice (some ⟨b, 0, none⟩) n n] 35)).alloc (.cells (madeCells #[.int .i64 0] n) 3)).cell? ⟨w.heap.size, 2, none⟩ = some (.slice (some ⟨b, 0, none⟩) n n) := by
    rw [World.cell?_alloc_past _ _ _ (by simp), World.cell?_alloc_at _ _ _ _ rfl]; rfl
  have HF0 := Hid.mk' (And.intro F0 (And.intro B0 C0))
  have HF := Hid.mk' hF
  clear F0 B0 C0 hF
  go_enter Yba.func11, Yba.ntmps11
  go_wp2
  go_loopw [11] (fun ii wr => ∃ k : Nat, k ≤ n ∧ ii = .int .i64 k ∧ Fill wr (w.heap.size + 1) n k (fun j => .int .i64 (j : Int)) ∧ Below w.heap.size w wr ∧ wr.cell? ⟨w.heap.size, 2, none⟩ = some (.slice (some ⟨b, 0, none⟩) n n)) (fun ii _ => n - (intOf ii).toNat)
  case atStart => exact ⟨0, Nat.zero_le _, rfl, HF0.out.1, HF0.out.2.1, HF0.out.2.2⟩
  case round =>
    clear hmk e32 e33 e30 q32 q33 q30 HF0
    obtain ⟨k, hk, rfl, hO, hb, hc⟩ := hrel
    by_cases hlt : k < n
    · have cB := (HF.out.below hb lF).cell (j := k) hlt hlt
      obtain ⟨v0, d0⟩ := hO.some (j := k) hlt
      have g0 := hO.free (j := k) hlt
      have i0 : (0 : Int) ≤ (k : Int) := by omega
      have i1 : (k : Int) < (n : Int) := by omega
      have HO := Hid.mk' (And.intro hO (And.intro hb hc))
      clear hO hb
      go_wp2
      go_roundw
      case rel =>
        refine ⟨k + 1, by omega, by go_num, HO.out.1.step hlt rfl, HO.out.2.1.setCell (by simp) _, ?_⟩
        rw [World.cell?_setCell_other _ _ _ _ (fun he => by injection he with h1; omega)]; exact HO.out.2.2
      case measure => simp [intOf]; omega
    · have hkn : k = n := by omega
      subst hkn
      have HO := Hid.mk' (And.intro hO hb)
      clear hO hb
      go_wp2
      go_ret2
      exact ⟨w.heap.size + 1, rfl, HO.out.1, HO.out.2⟩
end Go.Proofs.Ybulkamgm
