import Derived.Test.YbulkamhaMont
import Derived.Test.YbulkamhaAlg
namespace Go.Proofs.Ybulkamha
open Go.ChangeShapes Go.WideShapes Go.ChangeAt Go.RowKit

theorem alloc_drewN (w : World) (o : Obj) (n : Nat) : (w.alloc o).drewN n = (w.drewN n).alloc o := rfl
theorem bel_drewN {B : Nat} {a w : World} (h : Below B a w) (n : Nat) : Below B a (w.drewN n) := h.trans ⟨rfl, rfl, rfl, Nat.le_refl _, fun _ _ => rfl⟩

/-! ### Plain: Newton's step -/
theorem newton {p v : Int} (h : ∃ t, p * v = 1 + 4294967296 * t) : ∃ s, p * (v * ((2 - p * v % 18446744073709551616) % 18446744073709551616) % 18446744073709551616) = 1 + 18446744073709551616 * s := by
  obtain ⟨t, ht⟩ := h
  have h1 := Int.mul_ediv_add_emod (p * v) 18446744073709551616
  generalize hi : p * v / 18446744073709551616 = i at h1
  generalize ha : p * v % 18446744073709551616 = a at h1 ⊢
  have h2 := Int.mul_ediv_add_emod (2 - a) 18446744073709551616
  generalize hj : (2 - a) / 18446744073709551616 = j at h2
  generalize hb : (2 - a) % 18446744073709551616 = b at h2 ⊢
  have h3 := Int.mul_ediv_add_emod (v * b) 18446744073709551616
  generalize hk : v * b / 18446744073709551616 = k at h3
  generalize hc : v * b % 18446744073709551616 = c at h3 ⊢
  clear hi ha hj hb hk hc
  refine ⟨-(t * t) + p * v * i - p * v * j - p * k, ?_⟩
  have e1 : c = v * b - 18446744073709551616 * k := by omega
  have e2 : b = 1 + (1 - p * v + 18446744073709551616 * i - 18446744073709551616 * j) := by omega
  subst e1 e2
  exact alg_newton (Q := 4294967296) (by omega) ht

theorem Md.made (w : World) (b : Nat) (p v r2 : Int) (z : Value) (hb : b = w.heap.size) (p0 : 0 ≤ p) (p1 : p < 18446744073709551616) (r0 : 0 ≤ r2) (r1 : r2 < 18446744073709551616) : Md (w.alloc (.cells #[.int .u64 p, .int .u64 v, .int .u64 r2, z] 31)) b p v r2 := by
  subst hb
  exact ⟨by rw [World.cell?_alloc_at _ _ _ _ rfl]; rfl, by rw [World.cell?_alloc_at _ _ _ _ rfl]; rfl, by rw [World.cell?_alloc_at _ _ _ _ rfl]; rfl, p0, p1, r0, r1⟩
theorem under (w : World) (z c : Array Value) {b i : Nat} {v : Value} (hb : b = w.heap.size) (h : z[i]? = some v) : ((w.alloc (.cells z 31)).alloc (.cells c 31)).cell? ⟨b, i, none⟩ = some v ∧ ((w.alloc (.cells z 31)).alloc (.cells c 31)).frozen? ⟨b, i, none⟩ = false := by
  subst hb
  rw [World.cell?_alloc_past _ _ _ (by simp), World.cell?_alloc_at _ _ _ _ rfl, World.frozen?_alloc_past _ _ _ (by simp), World.frozen?_alloc_at _ _ _ _ rfl]
  exact ⟨h, rfl⟩
theorem over_ (w : World) (z c : Array Value) {b i : Nat} {v : Value} (hb : b = w.heap.size) (h : c[i]? = some v) : ((w.alloc (.cells z 31)).alloc (.cells c 31)).cell? ⟨b + 1, i, none⟩ = some v := by
  subst hb
  rw [World.cell?_alloc_at _ _ _ _ (by simp)]
  exact h
theorem r2_eq (p : Int) : (1 * 18446744073709551616 + 0) % p * 18446744073709551616 % p = 340282366920938463463374607431768211456 % p := by
  rw [Int.mul_emod, Int.emod_emod, ← Int.mul_emod]
  rfl

set_option maxHeartbeats 1000000 in
theorem new_any (p : Int) (w : World) (p0 : 2305843009213693952 ≤ p) (p1 : p < 4611686018427387904) (hp : ∃ t, p * p = 1 + 4294967296 * t) :
    Calls Yba.prog 11 #[.int .u64 p, .int .u64 3] w fun e w' => (∃ pinv root, (∃ s, p * pinv = 1 + 18446744073709551616 * s) ∧ e = .returned (.agg #[.int .u64 p, .int .u64 pinv, .int .u64 (340282366920938463463374607431768211456 % p), .int .u64 root])) ∧ Below w.heap.size w w' := by
  have HP := Hid.mk' hp
  clear hp
  obtain ⟨r1, hr1⟩ : ∃ r, r = (1 * 18446744073709551616 + 0) % p := ⟨_, rfl⟩
  obtain ⟨r2, hr2⟩ : ∃ r, r = 340282366920938463463374607431768211456 % p := ⟨_, rfl⟩
  have r10 : 0 ≤ r1 := by rw [hr1]; exact Int.emod_nonneg _ (by omega)
  have r20 : 0 ≤ r2 := by rw [hr2]; exact Int.emod_nonneg _ (by omega)
  have r21 : r2 < p := by rw [hr2]; exact Int.emod_lt_of_pos _ (by omega)
  have HR1 : Hid (∀ w, Calls Yba.prog 14 #[.int .u64 1, .int .u64 0, .int .u64 p] w fun e w' => e = .returned (.int .u64 r1) ∧ ∃ n, w' = w.drewN n) :=
    Hid.mk' fun w => by rw [hr1]; exact rem_any 1 0 p w (by omega) (by omega) (by omega) p0 p1
  have HR2 : Hid (∀ w, Calls Yba.prog 14 #[.int .u64 r1, .int .u64 0, .int .u64 p] w fun e w' => e = .returned (.int .u64 r2) ∧ ∃ n, w' = w.drewN n) :=
    Hid.mk' fun w => by
      have h := rem_any r1 0 p w r10 (by omega) (by omega) p0 p1
      rw [Int.add_zero, hr1, r2_eq, ← hr2, ← hr1] at h
      exact h
  rw [← hr2]
  clear hr1 hr2
  go_enter Yba.func11, Yba.ntmps11
  go_wp2_with fail
  go_loopw [10] (fun vi wr => ∃ (k v : Int), 0 ≤ k ∧ k ≤ 5 ∧ vi = .int .i64 k ∧ 0 ≤ v ∧ v < 18446744073709551616 ∧ (∃ t, p * v = 1 + 4294967296 * t) ∧ (k ≠ 0 → ∃ s, p * v = 1 + 18446744073709551616 * s) ∧ wr = (w.alloc (.cells #[.int .u64 0, .int .u64 0, .int .u64 0, .int .u64 0] 31)).alloc (.cells #[.int .u64 p, .int .u64 v, .int .u64 0, .int .u64 0] 31)) (fun vi _ => (5 - intOf vi).toNat)
  case atStart => exact ⟨0, p, by omega, by omega, rfl, by omega, by omega, HP.out, fun h => absurd rfl h, rfl⟩
  case round =>
    clear HP
    obtain ⟨k, v, k0, k1, rfl, v0, v1, ht, hs, rfl⟩ := hrel
    have HT := Hid.mk' ht
    have HS := Hid.mk' hs
    clear ht hs
    by_cases hk : k < 5
    · go_wp2_with fail
      go_roundw
      case rel =>
        obtain ⟨s, e⟩ := newton HT.out
        simp only [IntKind.wrap_u64]
        exact ⟨_, v * ((2 - p * v % 18446744073709551616) % 18446744073709551616) % 18446744073709551616, by omega, by omega, rfl, by omega, by omega, ⟨4294967296 * s, by omega⟩, fun _ => ⟨s, e⟩, rfl⟩
      case measure => simp [intOf]; omega
    · have HS5 := Hid.mk' (HS.out (by omega))
      clear HS HT
      go_wp2_with fail
      refine (HR1.out _).mono ?_
      rintro e w' ⟨rfl, n, rfl⟩
      rw [alloc_drewN, alloc_drewN]
      go_wp2_with fail
      refine (HR2.out _).mono ?_
      rintro e w' ⟨rfl, n2, rfl⟩
      rw [alloc_drewN, alloc_drewN, World.drewN_drewN]
      go_wp2_with fail
      refine (mont_any (w.heap.size + 1) p v r2 3 _ (Md.made _ _ _ _ _ _ (by simp) (by omega) (by omega) r20 (by omega)) (by omega) (by omega)).mono ?_
      rintro e w' ⟨rfl, n3, rfl⟩
      rw [alloc_drewN, alloc_drewN, World.drewN_drewN]
      have w3 := mulI_word p v 3 r2 (by omega) (by omega) r20 (by omega) (by omega)
      obtain ⟨T, hT⟩ : ∃ T, T = mulI p v 3 r2 := ⟨_, rfl⟩
      rw [← hT] at w3 ⊢
      clear hT
      go_wp2_with fail
      refine (pow_any (w.heap.size + 1) p v r2 T _ _ (Md.made _ _ _ _ _ _ (by simp) (by omega) (by omega) r20 (by omega)) w3.1 w3.2 (by omega) (by omega)).mono ?_
      rintro e w' ⟨⟨root, root0, root1, rfl⟩, n4, rfl⟩
      rw [alloc_drewN, alloc_drewN, World.drewN_drewN]
      have hz : (w.drewN (n + n2 + n3 + n4)).heap.size = w.heap.size := rfl
      have hb4 : Below w.heap.size w (w.drewN (n + n2 + n3 + n4)) := bel_drewN (Below.refl _ _) _
      go_upto_region 9 with (fail)
      generalize w.drewN (n + n2 + n3 + n4) = w4 at hz hb4 ⊢
      obtain ⟨W, hW⟩ : ∃ W, W = (w4.alloc (.cells #[.int .u64 0, .int .u64 0, .int .u64 0, .int .u64 0] 31)).alloc (.cells #[.int .u64 p, .int .u64 v, .int .u64 r2, .int .u64 root] 31) := ⟨_, rfl⟩
      rw [← hW]
      have hbW : Below w.heap.size w W := by
        rw [hW]; exact (hb4.alloc (by omega) _).alloc (by simp; omega) _
      have f0 : W.cell? ⟨w.heap.size, 0, none⟩ = some (.int .u64 0) ∧ W.frozen? ⟨w.heap.size, 0, none⟩ = false := by rw [hW]; exact under w4 _ _ hz.symm rfl
      have f1 : W.cell? ⟨w.heap.size, 1, none⟩ = some (.int .u64 0) ∧ W.frozen? ⟨w.heap.size, 1, none⟩ = false := by rw [hW]; exact under w4 _ _ hz.symm rfl
      have f2 : W.cell? ⟨w.heap.size, 2, none⟩ = some (.int .u64 0) ∧ W.frozen? ⟨w.heap.size, 2, none⟩ = false := by rw [hW]; exact under w4 _ _ hz.symm rfl
      have f3 : W.cell? ⟨w.heap.size, 3, none⟩ = some (.int .u64 0) ∧ W.frozen? ⟨w.heap.size, 3, none⟩ = false := by rw [hW]; exact under w4 _ _ hz.symm rfl
      have g0 : W.cell? ⟨w.heap.size + 1, 0, none⟩ = some (.int .u64 p) := by rw [hW]; exact over_ w4 _ _ hz.symm rfl
      have g1 : W.cell? ⟨w.heap.size + 1, 1, none⟩ = some (.int .u64 v) := by rw [hW]; exact over_ w4 _ _ hz.symm rfl
      have g2 : W.cell? ⟨w.heap.size + 1, 2, none⟩ = some (.int .u64 r2) := by rw [hW]; exact over_ w4 _ _ hz.symm rfl
      have g3 : W.cell? ⟨w.heap.size + 1, 3, none⟩ = some (.int .u64 root) := by rw [hW]; exact over_ w4 _ _ hz.symm rfl
      obtain ⟨f0, k0⟩ := f0
      obtain ⟨f1, k1⟩ := f1
      obtain ⟨f2, k2⟩ := f2
      obtain ⟨f3, k3⟩ := f3
      have HB := Hid.mk' hbW
      clear hW hbW hz hb4
      go_wp2_with fail
      refine bodyPost_ret (v := .agg #[.int .u64 p, .int .u64 v, .int .u64 r2, .int .u64 root]) (by simp [results, Yba.results11, go_sem, f0, f1, f2, f3]) rfl ⟨⟨v, root, HS5.out, rfl⟩, ?_⟩
      exact (((HB.out.setCell (Nat.le_refl _) _).setCell (Nat.le_refl _) _).setCell (Nat.le_refl _) _).setCell (Nat.le_refl _) _
end Go.Proofs.Ybulkamha
