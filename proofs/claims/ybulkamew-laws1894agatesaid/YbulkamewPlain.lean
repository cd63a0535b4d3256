import Derived.WalkKit
namespace Go.Proofs.Ybulkamew

/-- Is x among them? -/
def hasN (xs : List Nat) (x : Nat) : Bool := xs.contains x
/-- Side k has expression x and scope e, and is not taken yet. -/
def hitB (sx se : Nat → Nat) (x e : Nat) (acc : List Nat) (k : Nat) : Bool := (sx k == x && se k == e) && !(hasN acc k)
/-- The first side below ns that serves. -/
def firstHit (p : Nat → Bool) (ns : Nat) : Option Nat := (List.range ns).find? p
/-- The places of the first i origins, each at the first side that serves. -/
def placeN (sx se : Nat → Nat) (ns : Nat) (ox oe : Nat → Nat) : Nat → Option (List Nat)
  | 0 => some []
  | i + 1 => match placeN sx se ns ox oe i with
    | none => none
    | some acc => match firstHit (hitB sx se (ox i) (oe i) acc) ns with
      | none => none
      | some k => some (acc ++ [k])

theorem firstHit_some {p : Nat → Bool} {ns k : Nat} (hk : k < ns) (hp : p k = true) (hno : ∀ j, j < k → p j = false) : firstHit p ns = some k := by
  unfold firstHit
  rw [List.find?_range_eq_some]
  refine ⟨hp, by simpa using hk, fun j hj => ?_⟩
  simp [hno j hj]
theorem firstHit_none {p : Nat → Bool} {ns : Nat} (hno : ∀ j, j < ns → p j = false) : firstHit p ns = none := by
  unfold firstHit
  rw [List.find?_eq_none]
  intro x hx
  simp [hno x (by simpa using hx)]
theorem firstHit_lt {p : Nat → Bool} {ns k : Nat} (h : firstHit p ns = some k) : k < ns := by
  unfold firstHit at h
  have := List.mem_of_find?_eq_some h
  simpa using this

theorem placeN_step {sx se : Nat → Nat} {ns : Nat} {ox oe : Nat → Nat} {i k : Nat} {acc : List Nat} (h : placeN sx se ns ox oe i = some acc)
    (hk : firstHit (hitB sx se (ox i) (oe i) acc) ns = some k) : placeN sx se ns ox oe (i + 1) = some (acc ++ [k]) := by
  simp [placeN, h, hk]
theorem placeN_stop {sx se : Nat → Nat} {ns : Nat} {ox oe : Nat → Nat} {i : Nat} {acc : List Nat} (h : placeN sx se ns ox oe i = some acc)
    (hk : firstHit (hitB sx se (ox i) (oe i) acc) ns = none) : placeN sx se ns ox oe (i + 1) = none := by
  simp [placeN, h, hk]
theorem placeN_none {sx se : Nat → Nat} {ns : Nat} {ox oe : Nat → Nat} {i n : Nat} (h : placeN sx se ns ox oe i = none) (hn : i ≤ n) : placeN sx se ns ox oe n = none := by
  induction n with
  | zero => have : i = 0 := by omega
            subst this; exact h
  | succ n ih =>
    by_cases e : i = n + 1
    · subst e; exact h
    · simp [placeN, ih (by omega)]
theorem placeN_length {sx se : Nat → Nat} {ns : Nat} {ox oe : Nat → Nat} {n : Nat} : ∀ {acc : List Nat}, placeN sx se ns ox oe n = some acc → acc.length = n := by
  induction n with
  | zero => intro acc h; simp [placeN] at h; subst h; rfl
  | succ n ih =>
    intro acc h
    simp only [placeN] at h
    split at h
    · cases h
    · rename_i a ha
      split at h
      · cases h
      · simp at h; subst h; simp [ih ha]
end Go.Proofs.Ybulkamew
