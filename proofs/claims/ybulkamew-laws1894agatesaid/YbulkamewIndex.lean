import Derived.Test.YbulkamewProg
import Derived.Test.YbulkamewPlain
import Derived.WalkKit
import Derived.ProofKit
namespace Go.Proofs.Ybulkamew
open Go.ChangeShapes Go.WideShapes Go.ChangeAt Go.RowKit

/-- slices.Contains's answer. -/
def hasB (xs : List Int) (x : Int) : Bool := decide (x ∈ xs)

theorem ret_int {k : IntKind} {a b : Int} (h : a = b) : Ending.returned (.int k a) = .returned (.int k b) := by rw [h]

theorem mem_of_getD {xs : List Int} {x : Int} {k : Nat} (hk : k < xs.length) (h : x = xs[k]?.getD 0) : x ∈ xs := by
  rw [List.getElem?_eq_getElem hk] at h; simp at h; subst h; exact List.getElem_mem hk

theorem not_mem_of {xs : List Int} {x : Int} (h : ∀ j, j < xs.length → ¬ x = xs[j]?.getD 0) : ¬ x ∈ xs := by
  intro hm
  obtain ⟨j, hj, e⟩ := List.mem_iff_getElem.1 hm
  exact h j hj (by rw [List.getElem?_eq_getElem hj]; simp [e])

theorem has_here {xs : List Int} {x : Int} {k : Nat} (hk : k < xs.length) (h : (x == xs[k]) = true) : hasB xs x = decide (0 ≤ (k : Int)) := by
  have e : x = xs[k] := by simpa using h
  have hm : x ∈ xs := by rw [e]; exact List.getElem_mem hk
  simp [hasB, hm]
theorem has_none {xs : List Int} {x : Int} (h : ∀ j, j < xs.length → ¬ x = xs[j]?.getD 0) : hasB xs x = decide (0 ≤ (-1 : Int)) := by
  simp [hasB, not_mem_of h]
theorem not_step {xs : List Int} {x : Int} {k : Nat} (hk : k < xs.length) (h : ∀ j, j < k → ¬ x = xs[j]?.getD 0) (e : (x == xs[k]) = false) : ∀ j, j < k + 1 → ¬ x = xs[j]?.getD 0 := by
  intro j hj
  by_cases hjk : j = k
  · subst hjk
    rw [List.getElem?_eq_getElem hk]; simpa using e
  · exact h j (by omega)

set_option maxHeartbeats 400000 in
/-- slices.Index over ints: an index that is not negative just where the number is among them. -/
theorem index_any (a : Addr) (cap : Nat) (xs : List Int) (x : Int) (w : World) (hm : xs.length ≤ 1000000)
    (hc : ∀ j, j < xs.length → w.cell? (a.add j) = some (.int .i64 (xs[j]?.getD 0))) :
    Calls Yba.prog 20 #[.slice (some a) xs.length cap, .int .i64 x] w fun e w' => ∃ i : Int, e = .returned (.int .i64 i) ∧ hasB xs x = decide (0 ≤ i) ∧ w' = w := by
  go_enter Yba.func20, Yba.ntmps20
  go_wp2
  go_loop [8] (fun i => ∃ k : Nat, k ≤ xs.length ∧ i = .int .i64 k ∧ ∀ j, j < k → ¬ x = xs[j]?.getD 0) (fun i => xs.length - (intOf i).toNat)
  case atStart => exact ⟨0, Nat.zero_le _, rfl, fun j hj => absurd hj (by omega)⟩
  case round =>
    obtain ⟨k, hk, rfl, hno⟩ := hrel
    have HN : Hid (∀ j, j < k → ¬ x = xs[j]?.getD 0) := hno
    clear hno
    by_cases hlt : k < xs.length
    · have hck := hc k hlt
      clear hc
      go_wp2
      · have he : (x == xs[k]) = true := by assumption
        go_ret
        exact ⟨_, rfl, has_here hlt he, rfl⟩
      · have he : (x == xs[k]) = false := by assumption
        go_round
        case rel => exact ⟨k + 1, by omega, by go_num, not_step hlt HN.out he⟩
        case measure => simp [intOf]; omega
    · clear hc
      go_wp2
      go_ret
      exact ⟨_, rfl, has_none (fun j hj => HN.out j (by omega)), rfl⟩

set_option maxHeartbeats 400000 in
/-- slices.Contains over ints. -/
theorem contains_any (a : Addr) (cap : Nat) (xs : List Int) (x : Int) (w : World) (hm : xs.length ≤ 1000000)
    (hc : ∀ j, j < xs.length → w.cell? (a.add j) = some (.int .i64 (xs[j]?.getD 0))) :
    Calls Yba.prog 15 #[.slice (some a) xs.length cap, .int .i64 x] w fun e w' => e = .returned (.bool (hasB xs x)) ∧ w' = w := by
  go_enter Yba.func15, Yba.ntmps15
  go_wp2_with (go_at_call 20; refine (index_any a cap xs x _ hm hc).mono ?_; rintro e w' ⟨i, rfl, hi, rfl⟩)
  go_ret
  exact ⟨by rw [hi]; rfl, rfl⟩

/-- .. its numbers natural ones, its length by a name of its own. -/
theorem contains_nat (a : Addr) (cap n : Nat) (xs : List Nat) (x : Nat) (w : World) (hn : xs.length = n) (hm : n ≤ 1000000)
    (hc : ∀ j, j < n → w.cell? (a.add j) = some (.int .i64 ((xs[j]?.getD 0 : Nat) : Int))) :
    Calls Yba.prog 15 #[.slice (some a) n cap, .int .i64 x] w fun e w' => e = .returned (.bool (hasN xs x)) ∧ w' = w := by
  subst hn
  have h := contains_any a cap (xs.map (fun v : Nat => (v : Int))) x w (by simpa using hm) (fun j hj => by
    have hj' : j < xs.length := by simpa using hj
    rw [hc j hj', List.getElem?_map]
    simp [List.getElem?_eq_getElem hj'])
  rw [List.length_map] at h
  refine h.mono ?_
  rintro e w' ⟨rfl, rfl⟩
  refine ⟨?_, rfl⟩
  have e1 : hasB (xs.map (fun v : Nat => (v : Int))) x = hasN xs x := by
    unfold hasB hasN
    rw [Bool.eq_iff_iff]
    simp
    exact ⟨fun ⟨a, h1, h2⟩ => by have : a = x := by omega
                                 subst this; exact h1, fun h => ⟨x, h, rfl⟩⟩
  rw [e1]
end Go.Proofs.Ybulkamew
