import Derived.Test.YbulkamgmBorders
namespace Go.Proofs.Ybulkamgm
open Go.ChangeShapes Go.WideShapes Go.ChangeAt Go.RowKit

theorem made8 (w : World) (n : Nat) : Fill (w.alloc (.cells (madeCells #[.int .u8 0] n) 5)) w.heap.size n (min 1 n) (fun j => .int .u8 (j : Int)) :=
  ⟨_, Arr.made w #[.int .u8 0] n 5, fun j hj => by have : j = 0 := by omega
                                                   subst this; rfl⟩
theorem made16 (w : World) (n : Nat) : Fill (w.alloc (.cells (madeCells #[.int .u16 0] n) 27)) w.heap.size n (min 1 n) (fun j => .int .u16 (j : Int)) :=
  ⟨_, Arr.made w #[.int .u16 0] n 27, fun j hj => by have : j = 0 := by omega
                                                     subst this; rfl⟩
theorem made64 (w : World) (n : Nat) : Fill (w.alloc (.cells (madeCells #[.int .i64 0] n) 3)) w.heap.size n (min 1 n) (fun j => .int .i64 (j : Int)) :=
  ⟨_, Arr.made w #[.int .i64 0] n 3, fun j hj => by have : j = 0 := by omega
                                                    subst this; rfl⟩
theorem Fill.one {w : World} {b n : Nat} {F : Nat → Value} (h : Fill w b n (min 1 n) F) (hn : 1 ≤ n) : Fill w b n 1 F := by rwa [Nat.min_eq_left hn] at h

/-- The result's own cells, untouched so far. -/
structure Res (b : Nat) (w : World) : Prop where
  lt : b < w.heap.size
  c0 : w.cell? ⟨b, 0, none⟩ = some (.slice none 0 0)
  c1 : w.cell? ⟨b, 1, none⟩ = some (.slice none 0 0)
  c2 : w.cell? ⟨b, 2, none⟩ = some (.slice none 0 0)
  f0 : w.frozen? ⟨b, 0, none⟩ = false
  f1 : w.frozen? ⟨b, 1, none⟩ = false
  f2 : w.frozen? ⟨b, 2, none⟩ = false
theorem Res.below {b B : Nat} {w w' : World} (h : Res b w) (hb : Below B w w') (hB : b < B) : Res b w' :=
  ⟨Nat.lt_of_lt_of_le h.lt hb.size, (hb.cell (p := ⟨b, 0, none⟩) hB).trans h.c0, (hb.cell (p := ⟨b, 1, none⟩) hB).trans h.c1, (hb.cell (p := ⟨b, 2, none⟩) hB).trans h.c2,
   (hb.frozen (p := ⟨b, 0, none⟩) hB).trans h.f0, (hb.frozen (p := ⟨b, 1, none⟩) hB).trans h.f1, (hb.frozen (p := ⟨b, 2, none⟩) hB).trans h.f2⟩
theorem Res.new (w : World) : Res w.heap.size (w.alloc (.cells #[.slice none 0 0, .slice none 0 0, .slice none 0 0] 35)) :=
  ⟨by simp, by simp [World.cell?_alloc_at], by simp [World.cell?_alloc_at], by simp [World.cell?_alloc_at], by simp, by simp, by simp⟩

set_option maxHeartbeats 400000 in
/-- newBorderTable of a short run: narrow. -/
theorem table8 (s : ByteArray) (n : Nat) (w : World) (hs : s.size = n) (hn : n ≤ 256) (hR : Run s) :
    Calls Yba.prog 10 #[.string s] w fun e w' => ∃ b : Nat, e = .returned (.agg #[.slice (some ⟨b, 0, none⟩) n n, .slice none 0 0, .slice none 0 0]) ∧ Fill w' b n n (fun j => .int .u8 (j : Int)) ∧ Below w.heap.size w w' := by
  subst hs
  have hmk := fun w => mk32 s.size (by omega) w
  have HR := Hid.mk' hR
  clear hR
  have R0 := (Res.new w).below (B := w.heap.size + 1) ((Below.refl _ _).alloc (by simp) (.cells (madeCells #[.int .u8 0] s.size) 5)) (by omega)
  have F0 := made8 (w.alloc (.cells #[.slice none 0 0, .slice none 0 0, .slice none 0 0] 35)) s.size
  rw [World.size_alloc] at F0
  have B0 : Below w.heap.size w ((w.alloc (.cells #[.slice none 0 0, .slice none 0 0, .slice none 0 0] 35)).alloc (.cells (madeCells #[.int .u8 0] s.size) 5)) := ((Below.refl _ _).alloc (Nat.le_refl _) _).alloc (by simp) _
  have HC := Hid.mk' (borders13 s (w.heap.size + 1) s.size (w.heap.size + 1) _ rfl (by omega) hn HR.out (Nat.le_refl _) F0)
  have HR0 := Hid.mk' R0
  have HB0 := Hid.mk' B0
  clear R0 F0 B0
  go_enter Yba.func10, Yba.ntmps10
  go_wp2_with fail
  refine HC.out.mono ?_
  rintro e w1 ⟨rfl, hF, hb⟩
  obtain ⟨lt, c0, c1, c2, f0, f1, f2⟩ := HR0.out.below hb (by omega)
  have HF := Hid.mk' (And.intro hF hb)
  clear hF hb hmk
  go_wp2_with fail
  refine bodyPost_ret (v := .agg #[.slice (some ⟨w.heap.size + 1, 0, none⟩) s.size s.size, .slice none 0 0, .slice none 0 0]) (by simp [results, Yba.results10, go_sem, c0, c1, c2]) rfl ⟨w.heap.size + 1, rfl, ?_, ?_⟩
  · exact ((HF.out.1.setOther _ (by omega)).setOther _ (by omega)).setOther _ (by omega)
  · exact (((HB0.out.trans (HF.out.2.mono (by omega))).setCell (by simp) _).setCell (by simp) _).setCell (by simp) _

set_option maxHeartbeats 400000 in
/-- newBorderTable of a longer run: middle. -/
theorem table16 (s : ByteArray) (n : Nat) (w : World) (hs : s.size = n) (h0 : 256 < n) (hn : n ≤ 65536) (hR : Run s) :
    Calls Yba.prog 10 #[.string s] w fun e w' => ∃ b : Nat, e = .returned (.agg #[.slice none 0 0, .slice (some ⟨b, 0, none⟩) n n, .slice none 0 0]) ∧ Fill w' b n n (fun j => .int .u16 (j : Int)) ∧ Below w.heap.size w w' := by
  subst hs
  have hmk := fun w => mk32 s.size (by omega) w
  have hmk2 := fun w => mk33 s.size (by omega) w
  have HR := Hid.mk' hR
  clear hR
  have R0 := (Res.new w).below (B := w.heap.size + 1) ((Below.refl _ _).alloc (by simp) (.cells (madeCells #[.int .u8 0] s.size) 5)) (by omega)
  have F0 := (made8 (w.alloc (.cells #[.slice none 0 0, .slice none 0 0, .slice none 0 0] 35)) s.size).one (by omega)
  rw [World.size_alloc] at F0
  have B0 : Below w.heap.size w ((w.alloc (.cells #[.slice none 0 0, .slice none 0 0, .slice none 0 0] 35)).alloc (.cells (madeCells #[.int .u8 0] s.size) 5)) := ((Below.refl _ _).alloc (Nat.le_refl _) _).alloc (by simp) _
  have HC := Hid.mk' (borders13_long s (w.heap.size + 1) s.size (w.heap.size + 1) _ rfl (by omega) h0 HR.out (Nat.le_refl _) F0)
  have HR0 := Hid.mk' R0
  have HB0 := Hid.mk' B0
  clear R0 F0 B0
  go_enter Yba.func10, Yba.ntmps10
  go_wp2_with fail
  refine HC.out.mono ?_
  rintro e w1 ⟨rfl, hb⟩
  have R1 := Hid.mk' (HR0.out.below hb (by omega))
  have B1 := Hid.mk' (HB0.out.trans (hb.mono (by omega)))
  clear hb HR0 HB0
  go_wp2_with fail
  have F1 := made16 w1 s.size
  have B2 : Below w1.heap.size w1 (w1.alloc (.cells (madeCells #[.int .u16 0] s.size) 27)) := (Below.refl _ _).alloc (Nat.le_refl _) _
  have HB2 := Hid.mk' B2
  clear B2
  refine (borders14 s w1.heap.size s.size w1.heap.size _ rfl (by omega) hn HR.out (Nat.le_refl _) F1).mono ?_
  rintro e w2 ⟨rfl, hF, hb⟩
  have lw := R1.out.lt
  have b12 : Below w1.heap.size w1 w2 := HB2.out.trans hb
  obtain ⟨lt, c0, c1, c2, f0, f1, f2⟩ := R1.out.below b12 lw
  have HF := Hid.mk' (And.intro hF b12)
  clear hF hb b12 F1 hmk hmk2
  go_wp2_with fail
  refine bodyPost_ret (v := .agg #[.slice none 0 0, .slice (some ⟨w1.heap.size, 0, none⟩) s.size s.size, .slice none 0 0]) (by simp [results, Yba.results10, go_sem, c0, c1, c2]) rfl ⟨w1.heap.size, rfl, ?_, ?_⟩
  · exact ((HF.out.1.setOther _ (by omega)).setOther _ (by omega)).setOther _ (by omega)
  · exact (((B1.out.trans (HF.out.2.mono B1.out.size)).setCell (by simp) _).setCell (by simp) _).setCell (by simp) _

set_option maxHeartbeats 400000 in
/-- newBorderTable of a long run: wide. -/
theorem table64 (s : ByteArray) (n : Nat) (w : World) (hs : s.size = n) (h0 : 65536 < n) (hn : n ≤ 100000) (hR : Run s) :
    Calls Yba.prog 10 #[.string s] w fun e w' => ∃ b : Nat, e = .returned (.agg #[.slice none 0 0, .slice none 0 0, .slice (some ⟨b, 0, none⟩) n n]) ∧ Fill w' b n n (fun j => .int .i64 (j : Int)) ∧ Below w.heap.size w w' := by
  subst hs
  have hmk := fun w => mk32 s.size (by omega) w
  have hmk2 := fun w => mk33 s.size (by omega) w
  have hmk3 := fun w => mk30 s.size (by omega) w
  have HR := Hid.mk' hR
  clear hR
  have R0 := (Res.new w).below (B := w.heap.size + 1) ((Below.refl _ _).alloc (by simp) (.cells (madeCells #[.int .u8 0] s.size) 5)) (by omega)
  have F0 := (made8 (w.alloc (.cells #[.slice none 0 0, .slice none 0 0, .slice none 0 0] 35)) s.size).one (by omega)
  rw [World.size_alloc] at F0
  have B0 : Below w.heap.size w ((w.alloc (.cells #[.slice none 0 0, .slice none 0 0, .slice none 0 0] 35)).alloc (.cells (madeCells #[.int .u8 0] s.size) 5)) := ((Below.refl _ _).alloc (Nat.le_refl _) _).alloc (by simp) _
  have HC := Hid.mk' (borders13_long s (w.heap.size + 1) s.size (w.heap.size + 1) _ rfl (by omega) (by omega) HR.out (Nat.le_refl _) F0)
  have HR0 := Hid.mk' R0
  have HB0 := Hid.mk' B0
  clear R0 F0 B0
  go_enter Yba.func10, Yba.ntmps10
  go_wp2_with fail
  refine HC.out.mono ?_
  rintro e w1 ⟨rfl, hb⟩
  have R1 := Hid.mk' (HR0.out.below hb (by omega))
  have B1 := Hid.mk' (HB0.out.trans (hb.mono (by omega)))
  clear hb HR0 HB0
  go_wp2_with fail
  have F1 := (made16 w1 s.size).one (by omega)
  have B2 : Below w1.heap.size w1 (w1.alloc (.cells (madeCells #[.int .u16 0] s.size) 27)) := (Below.refl _ _).alloc (Nat.le_refl _) _
  have HB2 := Hid.mk' B2
  clear B2
  refine (borders14_long s w1.heap.size s.size w1.heap.size _ rfl (by omega) h0 HR.out (Nat.le_refl _) F1).mono ?_
  rintro e w2 ⟨rfl, hb⟩
  have b12 : Below w1.heap.size w1 w2 := HB2.out.trans hb
  have R2 := Hid.mk' (R1.out.below b12 R1.out.lt)
  have B3 := Hid.mk' (B1.out.trans (b12.mono B1.out.size))
  clear hb b12 F1 R1 B1 HB2
  go_wp2_with fail
  have F2 := made64 w2 s.size
  have B4 : Below w2.heap.size w2 (w2.alloc (.cells (madeCells #[.int .i64 0] s.size) 3)) := (Below.refl _ _).alloc (Nat.le_refl _) _
  have HB4 := Hid.mk' B4
  clear B4
  refine (borders15 s w2.heap.size s.size w2.heap.size _ rfl hn HR.out (Nat.le_refl _) F2).mono ?_
  rintro e w3 ⟨rfl, hF, hb⟩
  have b23 : Below w2.heap.size w2 w3 := HB4.out.trans hb
  have lw := R2.out.lt
  obtain ⟨lt, c0, c1, c2, f0, f1, f2⟩ := R2.out.below b23 lw
  have HF := Hid.mk' (And.intro hF b23)
  clear hF hb b23 F2 hmk hmk2 hmk3
  go_wp2_with fail
  refine bodyPost_ret (v := .agg #[.slice none 0 0, .slice none 0 0, .slice (some ⟨w2.heap.size, 0, none⟩) s.size s.size]) (by simp [results, Yba.results10, go_sem, c0, c1, c2]) rfl ⟨w2.heap.size, rfl, ?_, ?_⟩
  · exact ((HF.out.1.setOther _ (by omega)).setOther _ (by omega)).setOther _ (by omega)
  · exact (((B3.out.trans (HF.out.2.mono B3.out.size)).setCell (by simp) _).setCell (by simp) _).setCell (by simp) _
end Go.Proofs.Ybulkamgm
