import Derived.Test.YbulkamewGate3
namespace Go.Proofs.Ybulkamew
open Go.ChangeShapes Go.WideShapes Go.ChangeAt Go.RowKit

theorem anyB_congr {p q : Nat → Bool} {n : Nat} (h : ∀ j, p j = q j) : anyB p n = anyB q n := by
  have : p = q := funext h
  rw [this]

/-- The call of keepsOut, over the memory that the law has laid. -/
theorem gate_call {W1 w2 W2 w3 : World} {B n0 n1 : Nat} {f0 f1 : Nat → Nat} (l0 : n0 ≤ 1024) (l1 : n1 ≤ 1024) (hP : Pool B W1) (hF0 : Fill w2 W1.heap.size (n0 * 7) (n0 * 7) (termG B (fun j => f0 j % 4) (fun j => f0 j / 4 % 2))) (hb2 : Below W1.heap.size W1 w2)
    (hW2 : W2 = w2.alloc (.cells #[.nilIface, .pointer none, .slice (some ⟨W1.heap.size, 0, none⟩) n0 n0, .pointer none, .pointer none, .int .u8 0, .bool false, .bool false, .bool false, .int .i32 0] 51)) (hF1 : Fill w3 W2.heap.size (n1 * 7) (n1 * 7) (termG B (fun j => f1 j % 4) (fun j => f1 j / 4 % 2))) (hb3 : Below W2.heap.size W2 w3) :
    Calls Yba.prog 6 #[.pointer (some ⟨w3.heap.size + 1, 0, none⟩), .pointer (some ⟨w3.heap.size + 1 + 1, 0, none⟩)] (((w3.alloc (.cells #[.nilIface, .pointer none, .slice (some ⟨W2.heap.size, 0, none⟩) n1 n1, .pointer none, .pointer none, .int .u8 0, .bool false, .bool false, .bool false, .int .i32 0] 51)).alloc (.cells #[.pointer (some ⟨w3.heap.size, 0, none⟩), .slice none 0 0, .slice none 0 0, .slice none 0 0, .bool false, .bool false, .bool false, .bool false, .pointer none] 56)).alloc (.cells #[.pointer (some ⟨w2.heap.size, 0, none⟩), .slice none 0 0, .slice none 0 0, .pointer none] 59)) fun e w' => GateOut (!anyB (badB n1 f0 f1) n0) e ∧ Below W1.heap.size W1 w' := by
  have z2 : W2.heap.size = w2.heap.size + 1 := by rw [hW2]; simp
  have bA : Below w2.heap.size w2 W2 := by rw [hW2]; exact (Below.refl _ _).alloc (Nat.le_refl _) _
  have b3 : Below w2.heap.size w2 w3 := bA.trans (hb3.mono (by omega))
  have b4 : Below w3.heap.size w3 (((w3.alloc (.cells #[.nilIface, .pointer none, .slice (some ⟨W2.heap.size, 0, none⟩) n1 n1, .pointer none, .pointer none, .int .u8 0, .bool false, .bool false, .bool false, .int .i32 0] 51)).alloc (.cells #[.pointer (some ⟨w3.heap.size, 0, none⟩), .slice none 0 0, .slice none 0 0, .slice none 0 0, .bool false, .bool false, .bool false, .bool false, .pointer none] 56)).alloc (.cells #[.pointer (some ⟨w2.heap.size, 0, none⟩), .slice none 0 0, .slice none 0 0, .pointer none] 59)) := (((Below.refl _ _).alloc (Nat.le_refl _) _).alloc (by simp) _).alloc (by simp; omega) _
  have b14 : Below W1.heap.size W1 (((w3.alloc (.cells #[.nilIface, .pointer none, .slice (some ⟨W2.heap.size, 0, none⟩) n1 n1, .pointer none, .pointer none, .int .u8 0, .bool false, .bool false, .bool false, .int .i32 0] 51)).alloc (.cells #[.pointer (some ⟨w3.heap.size, 0, none⟩), .slice none 0 0, .slice none 0 0, .slice none 0 0, .bool false, .bool false, .bool false, .bool false, .pointer none] 56)).alloc (.cells #[.pointer (some ⟨w2.heap.size, 0, none⟩), .slice none 0 0, .slice none 0 0, .pointer none] 59)) := (hb2.trans (b3.mono hb2.size)).trans (b4.mono (Nat.le_trans hb2.size b3.size))
  have bl2 : W2.heap[w2.heap.size]? = some (.cells #[.nilIface, .pointer none, .slice (some ⟨W1.heap.size, 0, none⟩) n0 n0, .pointer none, .pointer none, .int .u8 0, .bool false, .bool false, .bool false, .int .i32 0] 51) := by rw [hW2]; exact heap_alloc_at _ _ _ rfl
  have bl3 : w3.heap[w2.heap.size]? = some (.cells #[.nilIface, .pointer none, .slice (some ⟨W1.heap.size, 0, none⟩) n0 n0, .pointer none, .pointer none, .int .u8 0, .bool false, .bool false, .bool false, .int .i32 0] 51) := (hb3.block _ (by omega)).trans bl2
  have lt3 : w2.heap.size < w3.heap.size := by have := hb3.size; omega
  have bl4 : (((w3.alloc (.cells #[.nilIface, .pointer none, .slice (some ⟨W2.heap.size, 0, none⟩) n1 n1, .pointer none, .pointer none, .int .u8 0, .bool false, .bool false, .bool false, .int .i32 0] 51)).alloc (.cells #[.pointer (some ⟨w3.heap.size, 0, none⟩), .slice none 0 0, .slice none 0 0, .slice none 0 0, .bool false, .bool false, .bool false, .bool false, .pointer none] 56)).alloc (.cells #[.pointer (some ⟨w2.heap.size, 0, none⟩), .slice none 0 0, .slice none 0 0, .pointer none] 59)).heap[w2.heap.size]? = some (.cells #[.nilIface, .pointer none, .slice (some ⟨W1.heap.size, 0, none⟩) n0 n0, .pointer none, .pointer none, .int .u8 0, .bool false, .bool false, .bool false, .int .i32 0] 51) := (b4.block _ lt3).trans bl3
  have bv4 : (((w3.alloc (.cells #[.nilIface, .pointer none, .slice (some ⟨W2.heap.size, 0, none⟩) n1 n1, .pointer none, .pointer none, .int .u8 0, .bool false, .bool false, .bool false, .int .i32 0] 51)).alloc (.cells #[.pointer (some ⟨w3.heap.size, 0, none⟩), .slice none 0 0, .slice none 0 0, .slice none 0 0, .bool false, .bool false, .bool false, .bool false, .pointer none] 56)).alloc (.cells #[.pointer (some ⟨w2.heap.size, 0, none⟩), .slice none 0 0, .slice none 0 0, .pointer none] 59)).heap[w3.heap.size]? = some (.cells #[.nilIface, .pointer none, .slice (some ⟨W2.heap.size, 0, none⟩) n1 n1, .pointer none, .pointer none, .int .u8 0, .bool false, .bool false, .bool false, .int .i32 0] 51) := by
    rw [heap_alloc_past _ _ _ (by simp; omega), heap_alloc_past _ _ _ (by simp)]; exact heap_alloc_at _ _ _ rfl
  have lF1 := hF1.lt
  refine (keeps_gate (w3.heap.size + 1) (w3.heap.size + 1 + 1) w3.heap.size w2.heap.size (!anyB (badB n1 f0 f1) n0) _ (by omega) bl4 bv4 ?_ ?_ ?_ ?_).mono (fun e w' ⟨h1, h2⟩ => ⟨h1, b14.trans (h2.mono b14.size)⟩)
  · simp [World.cell?_alloc_past, World.cell?_alloc_at]
  · simp [World.cell?_alloc_at]
  · simp [World.cell?_alloc_at]
  · intro w' hb'
    have b34 : Below w3.heap.size w3 w' := b4.trans (hb'.mono b4.size)
    have cv : (((w3.alloc (.cells #[.nilIface, .pointer none, .slice (some ⟨W2.heap.size, 0, none⟩) n1 n1, .pointer none, .pointer none, .int .u8 0, .bool false, .bool false, .bool false, .int .i32 0] 51)).alloc (.cells #[.pointer (some ⟨w3.heap.size, 0, none⟩), .slice none 0 0, .slice none 0 0, .slice none 0 0, .bool false, .bool false, .bool false, .bool false, .pointer none] 56)).alloc (.cells #[.pointer (some ⟨w2.heap.size, 0, none⟩), .slice none 0 0, .slice none 0 0, .pointer none] 59)).cell? ⟨w3.heap.size, 2, none⟩ = some (.slice (some ⟨W2.heap.size, 0, none⟩) n1 n1) := by
      rw [World.cell?_alloc_past _ _ _ (by simp; omega), World.cell?_alloc_past _ _ _ (by simp), World.cell?_alloc_at _ _ _ _ rfl]; rfl
    have cw : W2.cell? ⟨w2.heap.size, 2, none⟩ = some (.slice (some ⟨W1.heap.size, 0, none⟩) n0 n0) := by rw [hW2]; simp [World.cell?_alloc_at]
    have cw3 := (hb3.cell (p := ⟨w2.heap.size, 2, none⟩) (by show w2.heap.size < W2.heap.size; omega)).trans cw
    refine (takesAll B w3.heap.size w2.heap.size W2.heap.size n1 n1 W1.heap.size n0 n0 (fun j => f1 j % 4) (fun j => f1 j / 4 % 2) (fun j => f0 j % 4) (fun j => f0 j / 4 % 2) w' (fun j => Nat.mod_lt _ (by omega)) (fun j => Nat.mod_lt _ (by omega)) (fun j => Nat.mod_lt _ (by omega)) (fun j => Nat.mod_lt _ (by omega)) (by omega) (by omega)
      (hP.below (b14.trans (hb'.mono b14.size)) hP.size) ((hb'.cell (p := ⟨w3.heap.size, 2, none⟩) (World.block_lt_of_cell? _ _ cv)).trans cv) ((b34.cell (p := ⟨w2.heap.size, 2, none⟩) lt3).trans cw3)
      (hF1.below b34 lF1) ((hF0.below b3 hF0.lt).below b34 (Nat.lt_of_lt_of_le hF0.lt b3.size))).mono ?_
    rintro r w'' ⟨rfl, h2⟩
    exact ⟨rfl, h2⟩

set_option maxRecDepth 100000 in
set_option maxHeartbeats 1600000 in
theorem law_gate (a0 : Option Addr) (n0 c0 : Nat) (f0 : Nat → Nat) (a1 : Option Addr) (n1 c1 : Nat) (f1 : Nat → Nat) (w : World) (h0 : ArgIs w a0 n0 f0) (h1 : ArgIs w a1 n1 f1) (l0 : n0 ≤ 1024) (l1 : n1 ≤ 1024) :
    Calls Yba.prog 4 #[.slice a0 n0 c0, .slice a1 n1 c1] w (Post3 w.heap.size w) := by
  go_enter Yba.func4, Yba.ntmps4
  go_wp2_with (go_at_call 5; refine (pool_any _).mono ?_; rintro e w1 ⟨rfl, hb1, hp1, hz1⟩)
  obtain ⟨W1, hW1⟩ : ∃ x, x = (w1.alloc (.cells #[.slice (some ⟨w.heap.size + 4, 0, none⟩) 4 4] 23)).alloc (.cells #[.slice (some ⟨w.heap.size + 7, 0, none⟩) 2 2] 24) := ⟨_, rfl⟩
  have hbA : Below w.heap.size w W1 := by rw [hW1]; exact (hb1.alloc (by omega) _).alloc (by simp; omega) _
  have hPA : Pool w.heap.size W1 := by rw [hW1]; exact hp1.below (((Below.refl w1.heap.size w1).alloc (Nat.le_refl _) _).alloc (by simp) _) (by omega)
  have c5 : W1.cell? ⟨w.heap.size + 8, 0, none⟩ = some (.slice (some ⟨w.heap.size + 4, 0, none⟩) 4 4) := by rw [hW1, ← hz1]; simp [World.cell?_alloc_past, World.cell?_alloc_at]
  have c6 : W1.cell? ⟨w.heap.size + 8 + 1, 0, none⟩ = some (.slice (some ⟨w.heap.size + 7, 0, none⟩) 2 2) := by rw [hW1, ← hz1]; simp [World.cell?_alloc_at]
  rw [← hW1]
  clear hW1 hb1 hp1 hz1
  refine (mkTerms w.heap.size (w.heap.size + 8) (w.heap.size + 8 + 1) n0 c0 a0 f0 W1 l0 (h0.below hbA) hPA c5 c6).mono ?_
  rintro r w2 ⟨rfl, hF0, hb2⟩
  have H0 := Hid.mk' h0
  have H1 := Hid.mk' h1
  have HA := Hid.mk' hbA
  have HP := Hid.mk' hPA
  have HF0 := Hid.mk' hF0
  have HB2 := Hid.mk' hb2
  have C5 := Hid.mk' c5
  have C6 := Hid.mk' c6
  clear h0 h1 hbA hPA hF0 hb2 c5 c6
  go_wp2_with fail
  obtain ⟨W2, hW2⟩ : ∃ x, x = w2.alloc (.cells #[.nilIface, .pointer none, .slice (some ⟨W1.heap.size, 0, none⟩) n0 n0, .pointer none, .pointer none, .int .u8 0, .bool false, .bool false, .bool false, .int .i32 0] 51) := ⟨_, rfl⟩
  have z2 : W2.heap.size = w2.heap.size + 1 := by rw [hW2]; simp
  have b12 : Below W1.heap.size W1 W2 := by rw [hW2]; exact HB2.out.alloc HB2.out.size _
  have hbW2 : Below w.heap.size w W2 := HA.out.trans (b12.mono HA.out.size)
  have l5 : w.heap.size + 8 < W1.heap.size := World.block_lt_of_cell? W1 _ C5.out
  have l6 : w.heap.size + 8 + 1 < W1.heap.size := World.block_lt_of_cell? W1 _ C6.out
  rw [← hW2]
  refine (mkTerms w.heap.size (w.heap.size + 8) (w.heap.size + 8 + 1) n1 c1 a1 f1 W2 l1 (H1.out.below hbW2) (HP.out.below b12 HP.out.size) ((b12.cell (p := ⟨w.heap.size + 8, 0, none⟩) l5).trans C5.out) ((b12.cell (p := ⟨w.heap.size + 8 + 1, 0, none⟩) l6).trans C6.out)).mono ?_
  rintro r w3 ⟨rfl, hF1, hb3⟩
  have HC := Hid.mk' (gate_call l0 l1 HP.out HF0.out HB2.out hW2 hF1 hb3)
  clear hF1 hb3 hW2 z2 b12 hbW2 l5 l6
  go_upto_region 9 with (fail)
  go_cut [12, 13] (fun v12 v13 wc => GateV (!anyB (badB n1 f0 f1) n0) v12 v13 ∧ Below W1.heap.size W1 wc)
  case first =>
    go_wp2_with fail
    refine HC.out.mono ?_
    rintro r w4 ⟨ho, hb4⟩
    have HB4 := Hid.mk' hb4
    clear hb4
    obtain ⟨T, hT⟩ : ∃ T, T = !anyB (badB n1 f0 f1) n0 := ⟨_, rfl⟩
    have HTT := Hid.mk' hT
    rw [← hT] at ho
    clear hT
    cases T with
    | true =>
      obtain ⟨h, rfl⟩ : ∃ h : Nat, r = .returned (.tuple #[.slice (some ⟨h, 0, none⟩) 0 0, .bool true]) := ho
      go_wp2_with fail
      go_meet
      case rel => exact ⟨Or.inl ⟨HTT.out.symm, rfl, h, rfl⟩, HB4.out⟩
    | false =>
      have hr : r = .returned (.tuple #[.slice none 0 0, .bool false]) := ho
      subst hr
      clear ho
      go_wp2_with fail
      go_meet
      case rel => exact ⟨Or.inr ⟨HTT.out.symm, rfl, rfl⟩, HB4.out⟩
  case rest =>
    obtain ⟨hv, hb4⟩ := hcut
    have hbw : Below w.heap.size w wc := HA.out.trans (hb4.mono HA.out.size)
    refine go_on (by assumption) ?_
    exact g9 l0 l1 hbw (H0.out.below hbw) (H1.out.below hbw) rfl hv
end Go.Proofs.Ybulkamew
