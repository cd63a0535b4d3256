import Derived.Test.YbulkamgmExt
import Derived.Laws.BitsAllLaws
namespace Go.Proofs.Ybulkamgm
open Go.ChangeShapes Go.WideShapes Go.ChangeAt Go.RowKit

/-- A text of one byte, again and again. -/
def Run (s : ByteArray) : Prop := ∀ (i j : Nat) (hi : i < s.size) (hj : j < s.size), s[i] = s[j]

set_option maxHeartbeats 400000 in
/-- textBorders over such a text, its borders all fitting. -/
theorem borders13 (s : ByteArray) (b n B : Nat) (w : World) (hs : s.size = n) (hn : n ≤ 100000) (hM : n ≤ 256) (hR : Run s) (hB : B ≤ b) (hF : Fill w b n (min 1 n) (fun j => .int .u8 (j : Int))) :
    Calls Yba.prog 13 #[.string s, .slice (some ⟨b, 0, none⟩) n n] w fun e w' => e = .returned (.bool true) ∧ Fill w' b n n (fun j => .int .u8 (j : Int)) ∧ Below B w w' := by
  have HR := Hid.mk' hR
  clear hR
  by_cases hn0 : n = 0
  · subst hn0
    go_enter Yba.func13, Yba.ntmps13
    go_wp2
    refine wp_loop_rounds 1 ?_
    rw [rounds_succ]
    go_wp2
    go_ret
    exact ⟨rfl, hF, Below.refl _ _⟩
  have hF1 : Fill w b n 1 (fun j => .int .u8 (j : Int)) := by rw [Nat.min_eq_left (by omega)] at hF; exact hF
  clear hF
  subst hs
  go_enter Yba.func13, Yba.ntmps13
  go_wp2
  go_loopw [5, 6] (fun kk ii wr => ∃ j : Nat, j + 1 ≤ s.size ∧ kk = .int .i64 j ∧ ii = .int .i64 ((j : Int) + 1) ∧ Fill wr b s.size (j + 1) (fun j => .int .u8 (j : Int)) ∧ Below B w wr) (fun _ ii _ => s.size - (intOf ii).toNat)
  case atStart => exact ⟨0, by omega, rfl, rfl, hF1, Below.refl _ _⟩
  case round =>
    obtain ⟨j, hj, rfl, rfl, hF, hb⟩ := hrel
    have HF := Hid.mk' (And.intro hF hb)
    by_cases hlt : j + 1 < s.size
    · have hl1 : (j : Int) + 1 < (s.size : Int) := by omega
      have hj1 : (0 : Int) ≤ (j : Int) + 1 := by omega
      have hw : ((j : Int) + 1) % 256 = (j : Int) + 1 := by omega
      obtain ⟨v0, d0⟩ := hF.some (j := j + 1) hlt
      have g0 := hF.free (j := j + 1) hlt
      have hx := HR.out (j + 1) j hlt (by omega)
      have hjs : j < s.size := by omega
      have HE := Hid.mk' (fun w => ext22 s (.slice (some ⟨b, 0, none⟩) s.size s.size) j ((s[j + 1]'hlt).toNat : Int) hjs hn (by rw [hx]) w)
      clear hF hb hF1 hx
      go_wp2_with fail
      refine (HE.out wr).mono ?_
      rintro e w' ⟨rfl, rfl⟩
      go_wp2
      go_roundw
      case rel => exact ⟨j + 1, by omega, by go_num, by go_num, HF.out.1.step hlt (by simp), HF.out.2.setCell hB _⟩
      case measure => simp [intOf]; omega
    · clear hF hb hF1
      go_wp2
      go_ret
      have hjn : j + 1 = s.size := by omega
      refine ⟨rfl, ?_, HF.out.2⟩
      have := HF.out.1
      rwa [hjn] at this
set_option maxHeartbeats 400000 in
/-- textBorders over such a text that is too long: false. -/
theorem borders13_long (s : ByteArray) (b n B : Nat) (w : World) (hs : s.size = n) (hn : n ≤ 100000) (hM : 256 < n) (hR : Run s) (hB : B ≤ b) (hF : Fill w b n 1 (fun j => .int .u8 (j : Int))) :
    Calls Yba.prog 13 #[.string s, .slice (some ⟨b, 0, none⟩) n n] w fun e w' => e = .returned (.bool false) ∧ Below B w w' := by
  have HR := Hid.mk' hR
  clear hR
  subst hs
  go_enter Yba.func13, Yba.ntmps13
  go_wp2
  go_loopw [5, 6] (fun kk ii wr => ∃ j : Nat, j + 1 ≤ 256 ∧ kk = .int .i64 j ∧ ii = .int .i64 ((j : Int) + 1) ∧ Fill wr b s.size (j + 1) (fun j => .int .u8 (j : Int)) ∧ Below B w wr) (fun _ ii _ => s.size - (intOf ii).toNat)
  case atStart => exact ⟨0, by omega, rfl, rfl, hF, Below.refl _ _⟩
  case round =>
    obtain ⟨j, hj, rfl, rfl, hF0, hb⟩ := hrel
    have HF := Hid.mk' (And.intro hF0 hb)
    have hlt : j + 1 < s.size := by omega
    have hl1 : (j : Int) + 1 < (s.size : Int) := by omega
    have hj1 : (0 : Int) ≤ (j : Int) + 1 := by omega
    obtain ⟨v0, d0⟩ := hF0.some (j := j + 1) hlt
    have g0 := hF0.free (j := j + 1) hlt
    have hx := HR.out (j + 1) j hlt (by omega)
    have hjs : j < s.size := by omega
    have HE := Hid.mk' (fun w => ext22 s (.slice (some ⟨b, 0, none⟩) s.size s.size) j ((s[j + 1]'hlt).toNat : Int) hjs hn (by rw [hx]) w)
    clear hF0 hb hF hx
    by_cases hjm : j + 1 < 256
    · have hw : ((j : Int) + 1) % 256 = (j : Int) + 1 := by omega
      go_wp2_with fail
      refine (HE.out wr).mono ?_
      rintro e w' ⟨rfl, rfl⟩
      go_wp2
      go_roundw
      case rel => exact ⟨j + 1, by omega, by go_num, by go_num, HF.out.1.step hlt (by simp), HF.out.2.setCell hB _⟩
      case measure => simp [intOf]; omega
    · have hw : ((j : Int) + 1) % 256 = 0 := by omega
      have hne : ((0 : Int) != (j : Int) + 1) = true := by simp; omega
      go_wp2_with fail
      refine (HE.out wr).mono ?_
      rintro e w' ⟨rfl, rfl⟩
      go_wp2
      go_ret
      exact ⟨rfl, HF.out.2⟩
set_option maxHeartbeats 400000 in
/-- textBorders over such a text, its borders all fitting. -/
theorem borders14 (s : ByteArray) (b n B : Nat) (w : World) (hs : s.size = n) (hn : n ≤ 100000) (hM : n ≤ 65536) (hR : Run s) (hB : B ≤ b) (hF : Fill w b n (min 1 n) (fun j => .int .u16 (j : Int))) :
    Calls Yba.prog 14 #[.string s, .slice (some ⟨b, 0, none⟩) n n] w fun e w' => e = .returned (.bool true) ∧ Fill w' b n n (fun j => .int .u16 (j : Int)) ∧ Below B w w' := by
  have HR := Hid.mk' hR
  clear hR
  by_cases hn0 : n = 0
  · subst hn0
    go_enter Yba.func14, Yba.ntmps14
    go_wp2
    refine wp_loop_rounds 1 ?_
    rw [rounds_succ]
    go_wp2
    go_ret
    exact ⟨rfl, hF, Below.refl _ _⟩
  have hF1 : Fill w b n 1 (fun j => .int .u16 (j : Int)) := by rw [Nat.min_eq_left (by omega)] at hF; exact hF
  clear hF
  subst hs
  go_enter Yba.func14, Yba.ntmps14
  go_wp2
  go_loopw [5, 6] (fun kk ii wr => ∃ j : Nat, j + 1 ≤ s.size ∧ kk = .int .i64 j ∧ ii = .int .i64 ((j : Int) + 1) ∧ Fill wr b s.size (j + 1) (fun j => .int .u16 (j : Int)) ∧ Below B w wr) (fun _ ii _ => s.size - (intOf ii).toNat)
  case atStart => exact ⟨0, by omega, rfl, rfl, hF1, Below.refl _ _⟩
  case round =>
    obtain ⟨j, hj, rfl, rfl, hF, hb⟩ := hrel
    have HF := Hid.mk' (And.intro hF hb)
    by_cases hlt : j + 1 < s.size
    · have hl1 : (j : Int) + 1 < (s.size : Int) := by omega
      have hj1 : (0 : Int) ≤ (j : Int) + 1 := by omega
      have hw : ((j : Int) + 1) % 65536 = (j : Int) + 1 := by omega
      obtain ⟨v0, d0⟩ := hF.some (j := j + 1) hlt
      have g0 := hF.free (j := j + 1) hlt
      have hx := HR.out (j + 1) j hlt (by omega)
      have hjs : j < s.size := by omega
      have HE := Hid.mk' (fun w => ext23 s (.slice (some ⟨b, 0, none⟩) s.size s.size) j ((s[j + 1]'hlt).toNat : Int) hjs hn (by rw [hx]) w)
      clear hF hb hF1 hx
      go_wp2_with fail
      refine (HE.out wr).mono ?_
      rintro e w' ⟨rfl, rfl⟩
      go_wp2
      go_roundw
      case rel => exact ⟨j + 1, by omega, by go_num, by go_num, HF.out.1.step hlt (by simp), HF.out.2.setCell hB _⟩
      case measure => simp [intOf]; omega
    · clear hF hb hF1
      go_wp2
      go_ret
      have hjn : j + 1 = s.size := by omega
      refine ⟨rfl, ?_, HF.out.2⟩
      have := HF.out.1
      rwa [hjn] at this
set_option maxHeartbeats 400000 in
/-- textBorders over such a text that is too long: false. -/
theorem borders14_long (s : ByteArray) (b n B : Nat) (w : World) (hs : s.size = n) (hn : n ≤ 100000) (hM : 65536 < n) (hR : Run s) (hB : B ≤ b) (hF : Fill w b n 1 (fun j => .int .u16 (j : Int))) :
    Calls Yba.prog 14 #[.string s, .slice (some ⟨b, 0, none⟩) n n] w fun e w' => e = .returned (.bool false) ∧ Below B w w' := by
  have HR := Hid.mk' hR
  clear hR
  subst hs
  go_enter Yba.func14, Yba.ntmps14
  go_wp2
  go_loopw [5, 6] (fun kk ii wr => ∃ j : Nat, j + 1 ≤ 65536 ∧ kk = .int .i64 j ∧ ii = .int .i64 ((j : Int) + 1) ∧ Fill wr b s.size (j + 1) (fun j => .int .u16 (j : Int)) ∧ Below B w wr) (fun _ ii _ => s.size - (intOf ii).toNat)
  case atStart => exact ⟨0, by omega, rfl, rfl, hF, Below.refl _ _⟩
  case round =>
    obtain ⟨j, hj, rfl, rfl, hF0, hb⟩ := hrel
    have HF := Hid.mk' (And.intro hF0 hb)
    have hlt : j + 1 < s.size := by omega
    have hl1 : (j : Int) + 1 < (s.size : Int) := by omega
    have hj1 : (0 : Int) ≤ (j : Int) + 1 := by omega
    obtain ⟨v0, d0⟩ := hF0.some (j := j + 1) hlt
    have g0 := hF0.free (j := j + 1) hlt
    have hx := HR.out (j + 1) j hlt (by omega)
    have hjs : j < s.size := by omega
    have HE := Hid.mk' (fun w => ext23 s (.slice (some ⟨b, 0, none⟩) s.size s.size) j ((s[j + 1]'hlt).toNat : Int) hjs hn (by rw [hx]) w)
    clear hF0 hb hF hx
    by_cases hjm : j + 1 < 65536
    · have hw : ((j : Int) + 1) % 65536 = (j : Int) + 1 := by omega
      go_wp2_with fail
      refine (HE.out wr).mono ?_
      rintro e w' ⟨rfl, rfl⟩
      go_wp2
      go_roundw
      case rel => exact ⟨j + 1, by omega, by go_num, by go_num, HF.out.1.step hlt (by simp), HF.out.2.setCell hB _⟩
      case measure => simp [intOf]; omega
    · have hw : IntKind.u16.wrap ((j : Int) + 1) = 0 := by rw [IntKind.wrap_u16]; omega
      have hw0 : wrap64 0 = 0 := by unfold wrap64; omega
      have hne : ((0 : Int) != (j : Int) + 1) = true := by simp; omega
      go_wp2_with fail
      refine (HE.out wr).mono ?_
      rintro e w' ⟨rfl, rfl⟩
      go_wp2
      go_ret
      exact ⟨rfl, HF.out.2⟩
set_option maxHeartbeats 400000 in
/-- textBorders over such a text, its borders all fitting. -/
theorem borders15 (s : ByteArray) (b n B : Nat) (w : World) (hs : s.size = n) (hn : n ≤ 100000) (hR : Run s) (hB : B ≤ b) (hF : Fill w b n (min 1 n) (fun j => .int .i64 (j : Int))) :
    Calls Yba.prog 15 #[.string s, .slice (some ⟨b, 0, none⟩) n n] w fun e w' => e = .returned (.bool true) ∧ Fill w' b n n (fun j => .int .i64 (j : Int)) ∧ Below B w w' := by
  have HR := Hid.mk' hR
  clear hR
  by_cases hn0 : n = 0
  · subst hn0
    go_enter Yba.func15, Yba.ntmps15
    go_wp2
    refine wp_loop_rounds 1 ?_
    rw [rounds_succ]
    go_wp2
    go_ret
    exact ⟨rfl, hF, Below.refl _ _⟩
  have hF1 : Fill w b n 1 (fun j => .int .i64 (j : Int)) := by rw [Nat.min_eq_left (by omega)] at hF; exact hF
  clear hF
  subst hs
  go_enter Yba.func15, Yba.ntmps15
  go_wp2
  go_loopw [5, 6] (fun kk ii wr => ∃ j : Nat, j + 1 ≤ s.size ∧ kk = .int .i64 j ∧ ii = .int .i64 ((j : Int) + 1) ∧ Fill wr b s.size (j + 1) (fun j => .int .i64 (j : Int)) ∧ Below B w wr) (fun _ ii _ => s.size - (intOf ii).toNat)
  case atStart => exact ⟨0, by omega, rfl, rfl, hF1, Below.refl _ _⟩
  case round =>
    obtain ⟨j, hj, rfl, rfl, hF, hb⟩ := hrel
    have HF := Hid.mk' (And.intro hF hb)
    by_cases hlt : j + 1 < s.size
    · have hl1 : (j : Int) + 1 < (s.size : Int) := by omega
      have hj1 : (0 : Int) ≤ (j : Int) + 1 := by omega
      obtain ⟨v0, d0⟩ := hF.some (j := j + 1) hlt
      have g0 := hF.free (j := j + 1) hlt
      have hx := HR.out (j + 1) j hlt (by omega)
      have hjs : j < s.size := by omega
      have HE := Hid.mk' (fun w => ext24 s (.slice (some ⟨b, 0, none⟩) s.size s.size) j ((s[j + 1]'hlt).toNat : Int) hjs hn (by rw [hx]) w)
      clear hF hb hF1 hx
      go_wp2_with fail
      refine (HE.out wr).mono ?_
      rintro e w' ⟨rfl, rfl⟩
      go_wp2
      go_roundw
      case rel => exact ⟨j + 1, by omega, by go_num, by go_num, HF.out.1.step hlt (by simp), HF.out.2.setCell hB _⟩
      case measure => simp [intOf]; omega
    · clear hF hb hF1
      go_wp2
      go_ret
      have hjn : j + 1 = s.size := by omega
      refine ⟨rfl, ?_, HF.out.2⟩
      have := HF.out.1
      rwa [hjn] at this
end Go.Proofs.Ybulkamgm
