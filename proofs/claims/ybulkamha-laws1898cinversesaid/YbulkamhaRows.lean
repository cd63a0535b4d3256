/-
  No cell of these rows narrows 'for every input' (looked for: loops, veiled, ifaces, maps, wideKeys, modest, calm, conditions, laid).
  DERIVED. THE GIVEN ROWS OF THIS SEAT. 4 by the template 'for every input the law returns true; each argument reads behind the call as it read before'; 0 by the template 'total and deterministic' (their statements: YbulkamhaTotals.lean).
  GIVEN WITH THE SEED: the statements are not yours to turn. If you find one false, say at which input.
  Laid BY PROGRAM, IN A SANDBOX (cutbox-rows.mjs): the forced cells as the released guide's own fill.sh prints them over the translation 90474ac796f2b3cc… (all of the seat's roots in one cut). By AI agents, Wed Nov 11 2026. No macro, syntax, notation, axiom, sorry.
-/
import Derived.Test.YbulkamhaChecked
import GoSem.Claim
import GoSem.ClaimJoined
import GoSem.ClaimMapViews
import Derived.JoinedTies
import Derived.KernelRfl
namespace Go.Proofs.Ybulkamha
/- THE CELL 'sum', in the pinned program and in every row, IS THE sha256 OF THE DUMP (.gsa) THAT YbulkamhaProg.lean LOADS. Nothing in Lean hashes anything: it is a label: what it is worth is what the hold of that sum in a sandbox is worth. -/
noncomputable def Yba.pinned : Pinned := { name := "ybulkamha", sum := "90474ac796f2b3cc88c276ac41c5c8f6e2caf4b38633188ae8c11f86ceecf88b", checked := Yba.checked }
namespace Rows
def none {H : Type} : Left H := { results := [], args := [] }

/-- 'nat.LawS1898BExact': WHATEVER THE INPUT: true; the input reads as it did. -/
def lawS1898BExactSpec : ChangeSpec := { name := "lawS1898BExact", fn := fun _ => fun
  | [d1, d2] => { results := [.lit (.bool true)], args := [d1, d2] }
  | _ => none }
def lawS1898BExactRow : OpenClaim := { program := "ybulkamha", sum := "90474ac796f2b3cc88c276ac41c5c8f6e2caf4b38633188ae8c11f86ceecf88b", func := "example.com/binade/binade/internal/nat.LawS1898BExact", spec := "lawS1898BExact", apart := false }
def LawS1898BExactSaid : Prop := lawS1898BExactRow.holds Yba.pinned (OpenSpec.ofChange lawS1898BExactSpec)

/-- ITS FALSE NEIGHBOUR: 'it returns false'. Refute it at one input. -/
def lawS1898BExactWrong : ChangeSpec := { name := "lawS1898BExact", fn := fun _ => fun
  | [d1, d2] => { results := [.lit (.bool false)], args := [d1, d2] }
  | _ => none }
def LawS1898BExactWrongFalsely : Prop := lawS1898BExactRow.holds Yba.pinned (OpenSpec.ofChange lawS1898BExactWrong)

/-- 'nat.LawS1898BMono': WHATEVER THE INPUT: true; the input reads as it did. -/
def lawS1898BMonoSpec : ChangeSpec := { name := "lawS1898BMono", fn := fun _ => fun
  | [d1, d2] => { results := [.lit (.bool true)], args := [d1, d2] }
  | _ => none }
def lawS1898BMonoRow : OpenClaim := { program := "ybulkamha", sum := "90474ac796f2b3cc88c276ac41c5c8f6e2caf4b38633188ae8c11f86ceecf88b", func := "example.com/binade/binade/internal/nat.LawS1898BMono", spec := "lawS1898BMono", apart := false }
def LawS1898BMonoSaid : Prop := lawS1898BMonoRow.holds Yba.pinned (OpenSpec.ofChange lawS1898BMonoSpec)

/-- ITS FALSE NEIGHBOUR: 'it returns false'. Refute it at one input. -/
def lawS1898BMonoWrong : ChangeSpec := { name := "lawS1898BMono", fn := fun _ => fun
  | [d1, d2] => { results := [.lit (.bool false)], args := [d1, d2] }
  | _ => none }
def LawS1898BMonoWrongFalsely : Prop := lawS1898BMonoRow.holds Yba.pinned (OpenSpec.ofChange lawS1898BMonoWrong)

/-- 'nat.LawS1898CInverse': WHATEVER THE INPUT: true; the input reads as it did. -/
def lawS1898CInverseSpec : ChangeSpec := { name := "lawS1898CInverse", fn := fun _ => fun
  | [d1, d2] => { results := [.lit (.bool true)], args := [d1, d2] }
  | _ => none }
def lawS1898CInverseRow : OpenClaim := { program := "ybulkamha", sum := "90474ac796f2b3cc88c276ac41c5c8f6e2caf4b38633188ae8c11f86ceecf88b", func := "example.com/binade/binade/internal/nat.LawS1898CInverse", spec := "lawS1898CInverse", inPlace := ["math/bits.Sub64"], named := ["math/bits.divideError", "math/bits.overflowError"], apart := false }
def LawS1898CInverseSaid : Prop := lawS1898CInverseRow.holds Yba.pinned (OpenSpec.ofChange lawS1898CInverseSpec)

/-- ITS FALSE NEIGHBOUR: 'it returns false'. Refute it at one input. -/
def lawS1898CInverseWrong : ChangeSpec := { name := "lawS1898CInverse", fn := fun _ => fun
  | [d1, d2] => { results := [.lit (.bool false)], args := [d1, d2] }
  | _ => none }
def LawS1898CInverseWrongFalsely : Prop := lawS1898CInverseRow.holds Yba.pinned (OpenSpec.ofChange lawS1898CInverseWrong)

/-- 'nat.LawS1898CRange': WHATEVER THE INPUT: true; the input reads as it did. -/
def lawS1898CRangeSpec : ChangeSpec := { name := "lawS1898CRange", fn := fun _ => fun
  | [d1, d2] => { results := [.lit (.bool true)], args := [d1, d2] }
  | _ => none }
def lawS1898CRangeRow : OpenClaim := { program := "ybulkamha", sum := "90474ac796f2b3cc88c276ac41c5c8f6e2caf4b38633188ae8c11f86ceecf88b", func := "example.com/binade/binade/internal/nat.LawS1898CRange", spec := "lawS1898CRange", inPlace := ["math/bits.Sub64"], named := ["math/bits.divideError", "math/bits.overflowError"], apart := false }
def LawS1898CRangeSaid : Prop := lawS1898CRangeRow.holds Yba.pinned (OpenSpec.ofChange lawS1898CRangeSpec)

/-- ITS FALSE NEIGHBOUR: 'it returns false'. Refute it at one input. -/
def lawS1898CRangeWrong : ChangeSpec := { name := "lawS1898CRange", fn := fun _ => fun
  | [d1, d2] => { results := [.lit (.bool false)], args := [d1, d2] }
  | _ => none }
def LawS1898CRangeWrongFalsely : Prop := lawS1898CRangeRow.holds Yba.pinned (OpenSpec.ofChange lawS1898CRangeWrong)

end Rows
end Go.Proofs.Ybulkamha
