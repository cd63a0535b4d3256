import Derived.Test.YbulkamewPure
namespace Go.Proofs.Ybulkamew
open Go.ChangeShapes Go.WideShapes Go.ChangeAt Go.RowKit

/-- The cells of a row of terms: seven a term. -/
def termG (B : Nat) (x e : Nat → Nat) (c : Nat) : Value :=
  match c % 7 with
  | 0 => pE B (x (c / 7))
  | 1 => pN B (e (c / 7))
  | 5 => .bool false
  | 6 => .int .i32 0
  | _ => .pointer none
theorem termG_at (B : Nat) (x e : Nat → Nat) (k : Nat) : termG B x e (k * 7) = pE B (x k) ∧ termG B x e (k * 7 + 1) = pN B (e k) ∧ termG B x e (k * 7 + 2) = .pointer none ∧ termG B x e (k * 7 + 3) = .pointer none ∧ termG B x e (k * 7 + 4) = .pointer none ∧ termG B x e (k * 7 + 5) = .bool false ∧ termG B x e (k * 7 + 6) = .int .i32 0 := by
  unfold termG
  rw [show k * 7 % 7 = 0 by omega, show (k * 7 + 1) % 7 = 1 by omega, show k * 7 / 7 = k by omega, show (k * 7 + 1) / 7 = k by omega, show (k * 7 + 2) % 7 = 2 by omega, show (k * 7 + 3) % 7 = 3 by omega, show (k * 7 + 4) % 7 = 4 by omega, show (k * 7 + 5) % 7 = 5 by omega, show (k * 7 + 6) % 7 = 6 by omega]
  simp
/-- One term, as a value. -/
abbrev termV (B x e : Nat) : Value := .agg #[pE B x, pN B e, .pointer none, .pointer none, .pointer none, .bool false, .int .i32 0]
/-- Is there a number below n that p takes? -/
def anyB (p : Nat → Bool) (n : Nat) : Bool := (List.range n).any p
theorem anyB_here {p : Nat → Bool} {n k : Nat} (hk : k < n) (h : p k = true) : anyB p n = decide (0 ≤ (k : Int)) := by
  have : anyB p n = true := by simp [anyB]; exact ⟨k, hk, h⟩
  simp [this]
theorem anyB_none {p : Nat → Bool} {n : Nat} (h : ∀ j, j < n → p j = false) : anyB p n = decide (0 ≤ (-1 : Int)) := by
  have : anyB p n = false := by
    rw [← Bool.not_eq_true]
    simp [anyB]
    exact h
  simp [this]

set_option maxHeartbeats 800000 in
/-- slices.IndexFunc over terms, whatever the function, as long as its calls keep the worlds of a kind C. -/
theorem indexFunc11 (q : Addr) (B b n c : Nat) (x e : Nat → Nat) (p : Nat → Bool) (C : World → Prop) (w : World) (hn : n ≤ 100000) (hC : C w) (hF : ∀ w', C w' → Fill w' b (n * 7) (n * 7) (termG B x e))
    (hcall : ∀ w' j, C w' → j < n → Calls Yba.prog 11 #[termV B (x j) (e j), .pointer (some q)] w' fun r w'' => r = .returned (.bool (p j)) ∧ C w'') :
    Calls Yba.prog 16 #[.slice (some ⟨b, 0, none⟩) n c, .func (.func 11) #[] #[.pointer (some q)]] w fun r w' => ∃ i : Int, r = .returned (.int .i64 i) ∧ anyB p n = decide (0 ≤ i) ∧ C w' := by
  have HF := Hid.mk' hF
  have HC := Hid.mk' hcall
  clear hF hcall
  go_enter Yba.func16, Yba.ntmps16
  go_wp2
  go_loopw [8] (fun i wr => ∃ k : Nat, k ≤ n ∧ i = .int .i64 k ∧ (∀ j, j < k → p j = false) ∧ C wr) (fun i _ => n - (intOf i).toNat)
  case atStart => exact ⟨0, Nat.zero_le _, rfl, fun j hj => absurd hj (by omega), hC⟩
  case round =>
    obtain ⟨k, hk, rfl, hno, hCr⟩ := hrel
    have HN := Hid.mk' hno
    clear hno
    by_cases hlt : k < n
    · have F := HF.out wr hCr
      obtain ⟨t0, t1, t2, t3, t4, t5, t6⟩ := termG_at B x e k
      have d0 := F.cell (j := k * 7) (by omega) (by omega)
      have d1 := F.cell (j := k * 7 + 1) (by omega) (by omega)
      have d2 := F.cell (j := k * 7 + 2) (by omega) (by omega)
      have d3 := F.cell (j := k * 7 + 3) (by omega) (by omega)
      have d4 := F.cell (j := k * 7 + 4) (by omega) (by omega)
      have d5 := F.cell (j := k * 7 + 5) (by omega) (by omega)
      have d6 := F.cell (j := k * 7 + 6) (by omega) (by omega)
      rw [t0] at d0
      rw [t1] at d1
      rw [t2] at d2
      rw [t3] at d3
      rw [t4] at d4
      rw [t5] at d5
      rw [t6] at d6
      clear t0 t1 t2 t3 t4 t5 t6 F
      go_wp2_with fail
      refine (HC.out wr k hCr hlt).mono ?_
      rintro r w' ⟨rfl, hC'⟩
      cases hp : p k with
      | true =>
        have HP := Hid.mk' hp
        clear hp
        go_wp2_with fail
        go_ret
        exact ⟨_, rfl, anyB_here hlt HP.out, hC'⟩
      | false =>
        have HP := Hid.mk' hp
        clear hp
        go_wp2_with fail
        go_roundw
        case rel => exact ⟨k + 1, by omega, by go_num, no_step HN.out HP.out, hC'⟩
        case measure => simp [intOf]; omega
    · go_wp2
      go_ret
      exact ⟨_, rfl, anyB_none (fun j hj => HN.out j (by omega)), hCr⟩

set_option maxHeartbeats 400000 in
/-- slices.ContainsFunc over terms. -/
theorem containsFunc11 (q : Addr) (B b n c : Nat) (x e : Nat → Nat) (p : Nat → Bool) (C : World → Prop) (w : World) (hn : n ≤ 100000) (hC : C w) (hF : ∀ w', C w' → Fill w' b (n * 7) (n * 7) (termG B x e))
    (hcall : ∀ w' j, C w' → j < n → Calls Yba.prog 11 #[termV B (x j) (e j), .pointer (some q)] w' fun r w'' => r = .returned (.bool (p j)) ∧ C w'') :
    Calls Yba.prog 10 #[.slice (some ⟨b, 0, none⟩) n c, .func (.func 11) #[] #[.pointer (some q)]] w fun r w' => r = .returned (.bool (anyB p n)) ∧ C w' := by
  have HI := Hid.mk' (indexFunc11 q B b n c x e p C w hn hC hF hcall)
  clear hF hcall
  go_enter Yba.func10, Yba.ntmps10
  go_wp2_with fail
  refine HI.out.mono ?_
  rintro r w' ⟨i, rfl, hi, hC'⟩
  have HH := Hid.mk' hi
  clear hi
  go_wp2_with fail
  go_ret
  exact ⟨by rw [HH.out]; rfl, hC'⟩
set_option maxHeartbeats 800000 in
/-- slices.IndexFunc over terms, whatever the function, as long as its calls keep the worlds of a kind C. -/
theorem indexFunc13 (q : Addr) (B b n c : Nat) (x e : Nat → Nat) (p : Nat → Bool) (C : World → Prop) (w : World) (hn : n ≤ 100000) (hC : C w) (hF : ∀ w', C w' → Fill w' b (n * 7) (n * 7) (termG B x e))
    (hcall : ∀ w' j, C w' → j < n → Calls Yba.prog 13 #[termV B (x j) (e j), .pointer (some q)] w' fun r w'' => r = .returned (.bool (p j)) ∧ C w'') :
    Calls Yba.prog 16 #[.slice (some ⟨b, 0, none⟩) n c, .func (.func 13) #[] #[.pointer (some q)]] w fun r w' => ∃ i : Int, r = .returned (.int .i64 i) ∧ anyB p n = decide (0 ≤ i) ∧ C w' := by
  have HF := Hid.mk' hF
  have HC := Hid.mk' hcall
  clear hF hcall
  go_enter Yba.func16, Yba.ntmps16
  go_wp2
  go_loopw [8] (fun i wr => ∃ k : Nat, k ≤ n ∧ i = .int .i64 k ∧ (∀ j, j < k → p j = false) ∧ C wr) (fun i _ => n - (intOf i).toNat)
  case atStart => exact ⟨0, Nat.zero_le _, rfl, fun j hj => absurd hj (by omega), hC⟩
  case round =>
    obtain ⟨k, hk, rfl, hno, hCr⟩ := hrel
    have HN := Hid.mk' hno
    clear hno
    by_cases hlt : k < n
    · have F := HF.out wr hCr
      obtain ⟨t0, t1, t2, t3, t4, t5, t6⟩ := termG_at B x e k
      have d0 := F.cell (j := k * 7) (by omega) (by omega)
      have d1 := F.cell (j := k * 7 + 1) (by omega) (by omega)
      have d2 := F.cell (j := k * 7 + 2) (by omega) (by omega)
      have d3 := F.cell (j := k * 7 + 3) (by omega) (by omega)
      have d4 := F.cell (j := k * 7 + 4) (by omega) (by omega)
      have d5 := F.cell (j := k * 7 + 5) (by omega) (by omega)
      have d6 := F.cell (j := k * 7 + 6) (by omega) (by omega)
      rw [t0] at d0
      rw [t1] at d1
      rw [t2] at d2
      rw [t3] at d3
      rw [t4] at d4
      rw [t5] at d5
      rw [t6] at d6
      clear t0 t1 t2 t3 t4 t5 t6 F
      go_wp2_with fail
      refine (HC.out wr k hCr hlt).mono ?_
      rintro r w' ⟨rfl, hC'⟩
      cases hp : p k with
      | true =>
        have HP := Hid.mk' hp
        clear hp
        go_wp2_with fail
        go_ret
        exact ⟨_, rfl, anyB_here hlt HP.out, hC'⟩
      | false =>
        have HP := Hid.mk' hp
        clear hp
        go_wp2_with fail
        go_roundw
        case rel => exact ⟨k + 1, by omega, by go_num, no_step HN.out HP.out, hC'⟩
        case measure => simp [intOf]; omega
    · go_wp2
      go_ret
      exact ⟨_, rfl, anyB_none (fun j hj => HN.out j (by omega)), hCr⟩

set_option maxHeartbeats 400000 in
/-- slices.ContainsFunc over terms. -/
theorem containsFunc13 (q : Addr) (B b n c : Nat) (x e : Nat → Nat) (p : Nat → Bool) (C : World → Prop) (w : World) (hn : n ≤ 100000) (hC : C w) (hF : ∀ w', C w' → Fill w' b (n * 7) (n * 7) (termG B x e))
    (hcall : ∀ w' j, C w' → j < n → Calls Yba.prog 13 #[termV B (x j) (e j), .pointer (some q)] w' fun r w'' => r = .returned (.bool (p j)) ∧ C w'') :
    Calls Yba.prog 10 #[.slice (some ⟨b, 0, none⟩) n c, .func (.func 13) #[] #[.pointer (some q)]] w fun r w' => r = .returned (.bool (anyB p n)) ∧ C w' := by
  have HI := Hid.mk' (indexFunc13 q B b n c x e p C w hn hC hF hcall)
  clear hF hcall
  go_enter Yba.func10, Yba.ntmps10
  go_wp2_with fail
  refine HI.out.mono ?_
  rintro r w' ⟨i, rfl, hi, hC'⟩
  have HH := Hid.mk' hi
  clear hi
  go_wp2_with fail
  go_ret
  exact ⟨by rw [HH.out]; rfl, hC'⟩
end Go.Proofs.Ybulkamew
