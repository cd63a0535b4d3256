import Derived.Test.YbulkamewProg
import Derived.Test.YbulkamewKeeps
import Derived.WalkKit
import Derived.Deep.DeepCutAuto
import Derived.Deep.CutBlock
import Derived.StillTailTactics
namespace Go.Proofs.Ybulkamew
open Go.ChangeShapes Go.WideShapes Go.ChangeAt Go.RowKit
/-- What stands behind the first n statements of a sequence. -/
def tailN : Nat → Code → Code
  | 0, c => c
  | n + 1, .seq _ b => tailN n b
  | _ + 1, c => c
/-- On to what follows. -/
theorem go_on {P : Program} {c : Code} {Q : Exit → Act → World → Prop} {K : Act → World → Prop} {a : Act} {w : World} (h : ∀ a w, c.wp P Q a w → K a w) (hc : c.wp P Q a w) : K a w := h a w hc

/-- 'wp_region_still_tail', the drawn world under its name. -/
theorem region_tail {P : Program} {id : Nat} {Q : Exit → Act → World → Prop} {a : Act} {w : World} {l : List Oper} (n : Nat) (hm : P.follows .mixedOrders = true) (hB : Region.lexTailB .any l.toArray n = true)
    (h : wpStill P l.toArray w.drew (fun a' => wpList P l.toArray Q (l.drop n) a' w.drew) (l.take n) a) : (Code.region id l.toArray true).wp P Q a w := wp_region_still_tail n hm hB h

/-- What the walk is told of an argument: its elements, each a byte. -/
def ArgIs (w : World) (a : Option Addr) (len : Nat) (f : Nat → Nat) : Prop := ∀ j, j < len → ∃ x, a = some x ∧ x.block < w.heap.size ∧ w.cell? (x.add j) = some (.int .u8 (f j)) ∧ f j < 256
theorem block_add (x : Addr) (k : Nat) : (x.add k).block = x.block := by unfold Addr.add; split <;> rfl
theorem ArgIs.below {w w' : World} {a : Option Addr} {len : Nat} {f : Nat → Nat} (h : ArgIs w a len f) (hb : Below w.heap.size w w') : ArgIs w' a len f := fun j hj => by
  obtain ⟨x, e, l, c, b⟩ := h j hj
  exact ⟨x, e, Nat.lt_of_lt_of_le l hb.size, (hb.cell (by rw [block_add]; exact l)).trans c, b⟩

/-- The cells of the terms that the law makes: seven a term. -/
def termF (B : Nat) (e : Nat → Nat) (c : Nat) : Value :=
  match c % 7 with
  | 0 => pE B 0
  | 1 => pN B (e (c / 7))
  | 5 => .bool false
  | 6 => .int .i32 0
  | _ => .pointer none
theorem termF_at (B : Nat) (e : Nat → Nat) (k : Nat) : termF B e (k * 7) = pE B 0 ∧ termF B e (k * 7 + 1) = pN B (e k) ∧ termF B e (k * 7 + 2) = .pointer none ∧ termF B e (k * 7 + 3) = .pointer none ∧ termF B e (k * 7 + 4) = .pointer none ∧ termF B e (k * 7 + 5) = .bool false ∧ termF B e (k * 7 + 6) = .int .i32 0 := by
  unfold termF
  rw [show k * 7 % 7 = 0 by omega, show (k * 7 + 1) % 7 = 1 by omega, show (k * 7 + 1) / 7 = k by omega, show (k * 7 + 2) % 7 = 2 by omega, show (k * 7 + 3) % 7 = 3 by omega, show (k * 7 + 4) % 7 = 4 by omega, show (k * 7 + 5) % 7 = 5 by omega, show (k * 7 + 6) % 7 = 6 by omega]
  simp
/-- The law's post. -/
def Post3 (B : Nat) (w0 : World) (e : Ending) (w' : World) : Prop := e = .returned (.bool true) ∧ Below B w0 w'

/-- The cells of the sides that the law makes: five a side. -/
def sideF (B : Nat) (A sx : Nat → Nat) (c : Nat) : Value :=
  match c % 5 with
  | 0 => .int .i64 (A (c / 5))
  | 1 => .slice none 0 0
  | 2 => .bool false
  | 3 => pE B (sx (c / 5))
  | _ => .int .i64 0
theorem sideF_at (B : Nat) (A sx : Nat → Nat) (k : Nat) : sideF B A sx (k * 5) = .int .i64 (A k) ∧ sideF B A sx (k * 5 + 1) = .slice none 0 0 ∧ sideF B A sx (k * 5 + 2) = .bool false ∧ sideF B A sx (k * 5 + 3) = pE B (sx k) ∧ sideF B A sx (k * 5 + 4) = .int .i64 0 := by
  unfold sideF
  rw [show k * 5 % 5 = 0 by omega, show (k * 5 + 1) % 5 = 1 by omega, show k * 5 / 5 = k by omega, show (k * 5 + 3) / 5 = k by omega, show (k * 5 + 2) % 5 = 2 by omega, show (k * 5 + 3) % 5 = 3 by omega, show (k * 5 + 4) % 5 = 4 by omega]
  simp
/-- The cells of the origins that the law makes: two an origin. -/
def origF (B : Nat) (ox oe : Nat → Nat) (c : Nat) : Value :=
  match c % 2 with
  | 0 => pE B (ox (c / 2))
  | _ => pN B (oe (c / 2))
theorem origF_at (B : Nat) (ox oe : Nat → Nat) (k : Nat) : origF B ox oe (k * 2) = pE B (ox k) ∧ origF B ox oe (k * 2 + 1) = pN B (oe k) := by
  unfold origF
  rw [show k * 2 % 2 = 0 by omega, show (k * 2 + 1) % 2 = 1 by omega, show k * 2 / 2 = k by omega, show (k * 2 + 1) / 2 = k by omega]
  simp
/-- The two results of keepsOut, by the plain answer. -/
def OutV (r : Option (List Nat)) (n3 : Nat) (W : World) (v31 v32 : Value) : Prop :=
  (r = none ∧ v31 = .slice none 0 0 ∧ v32 = .bool false) ∨
  ∃ (acc : List Nat) (ba : Nat), r = some acc ∧ v31 = .slice (some ⟨ba, 0, none⟩) n3 n3 ∧ v32 = .bool true ∧ Arr W ba n3 (fun j => .int .i64 ((acc[j]?.getD 0 : Nat) : Int))
/-- What the law itself reckons, by the plain answer. -/
def WantV (r : Option (List Nat)) (n3 bw : Nat) (W : World) (v35 : Value) : Prop :=
  (r = none ∧ v35 = .bool false) ∨ ∃ acc : List Nat, r = some acc ∧ v35 = .bool true ∧ Fill W bw n3 n3 (fun j => .int .i64 ((acc[j]?.getD 0 : Nat) : Int))
end Go.Proofs.Ybulkamew
