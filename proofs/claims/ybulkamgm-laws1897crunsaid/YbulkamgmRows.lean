/-
  No cell of these rows narrows 'for every input' (looked for: loops, veiled, ifaces, maps, wideKeys, modest, calm, conditions, laid).
  DERIVED. THE GIVEN ROWS OF THIS SEAT. 4 by the template 'for every input the law returns true; each argument reads behind the call as it read before'; 0 by the template 'total and deterministic' (their statements: YbulkamgmTotals.lean).
  GIVEN WITH THE SEED: the statements are not yours to turn. If you find one false, say at which input.
  Laid BY PROGRAM, IN A SANDBOX (cutbox-rows.mjs): the forced cells as the released guide's own fill.sh prints them over the translation 81cebfb7d948a8fd… (all of the seat's roots in one cut). By AI agents, Wed Nov 11 2026. No macro, syntax, notation, axiom, sorry.
-/
import Derived.Test.YbulkamgmChecked
import GoSem.Claim
import GoSem.ClaimJoined
import GoSem.ClaimMapViews
import Derived.JoinedTies
import Derived.KernelRfl
namespace Go.Proofs.Ybulkamgm
/- THE CELL 'sum', in the pinned program and in every row, IS THE sha256 OF THE DUMP (.gsa) THAT YbulkamgmProg.lean LOADS. Nothing in Lean hashes anything: it is a label: what it is worth is what the hold of that sum in a sandbox is worth. -/
noncomputable def Yba.pinned : Pinned := { name := "ybulkamgm", sum := "81cebfb7d948a8fd88473fda90d6e187ae6d6c58bc2a19afd3cf76c1fe7fca21", checked := Yba.checked }
namespace Rows
def none {H : Type} : Left H := { results := [], args := [] }

/-- 'pattern.LawS1897BExact': WHATEVER THE INPUT: true; the input reads as it did. -/
def lawS1897BExactSpec : ChangeSpec := { name := "lawS1897BExact", fn := fun _ => fun
  | [d1, d2, d3] => { results := [.lit (.bool true)], args := [d1, d2, d3] }
  | _ => none }
def lawS1897BExactRow : OpenClaim := { program := "ybulkamgm", sum := "81cebfb7d948a8fd88473fda90d6e187ae6d6c58bc2a19afd3cf76c1fe7fca21", func := "example.com/verdict/verdict/internal/pattern.LawS1897BExact", spec := "lawS1897BExact", apart := false }
def LawS1897BExactSaid : Prop := lawS1897BExactRow.holds Yba.pinned (OpenSpec.ofChange lawS1897BExactSpec)

/-- ITS FALSE NEIGHBOUR: 'it returns false'. Refute it at one input. -/
def lawS1897BExactWrong : ChangeSpec := { name := "lawS1897BExact", fn := fun _ => fun
  | [d1, d2, d3] => { results := [.lit (.bool false)], args := [d1, d2, d3] }
  | _ => none }
def LawS1897BExactWrongFalsely : Prop := lawS1897BExactRow.holds Yba.pinned (OpenSpec.ofChange lawS1897BExactWrong)

/-- 'pattern.LawS1897BDecode': WHATEVER THE INPUT: true; the input reads as it did. -/
def lawS1897BDecodeSpec : ChangeSpec := { name := "lawS1897BDecode", fn := fun _ => fun
  | [d1, d2, d3] => { results := [.lit (.bool true)], args := [d1, d2, d3] }
  | _ => none }
def lawS1897BDecodeRow : OpenClaim := { program := "ybulkamgm", sum := "81cebfb7d948a8fd88473fda90d6e187ae6d6c58bc2a19afd3cf76c1fe7fca21", func := "example.com/verdict/verdict/internal/pattern.LawS1897BDecode", spec := "lawS1897BDecode", apart := false }
def LawS1897BDecodeSaid : Prop := lawS1897BDecodeRow.holds Yba.pinned (OpenSpec.ofChange lawS1897BDecodeSpec)

/-- ITS FALSE NEIGHBOUR: 'it returns false'. Refute it at one input. -/
def lawS1897BDecodeWrong : ChangeSpec := { name := "lawS1897BDecode", fn := fun _ => fun
  | [d1, d2, d3] => { results := [.lit (.bool false)], args := [d1, d2, d3] }
  | _ => none }
def LawS1897BDecodeWrongFalsely : Prop := lawS1897BDecodeRow.holds Yba.pinned (OpenSpec.ofChange lawS1897BDecodeWrong)

/-- 'pattern.LawS1897CNaive': WHATEVER THE INPUT: true; the input reads as it did. -/
def lawS1897CNaiveSpec : ChangeSpec := { name := "lawS1897CNaive", fn := fun _ => fun
  | [d] => { results := [.lit (.bool true)], args := [d] }
  | _ => none }
def lawS1897CNaiveRow : OpenClaim := { program := "ybulkamgm", sum := "81cebfb7d948a8fd88473fda90d6e187ae6d6c58bc2a19afd3cf76c1fe7fca21", func := "example.com/verdict/verdict/internal/pattern.LawS1897CNaive", spec := "lawS1897CNaive", apart := false }
def LawS1897CNaiveSaid : Prop := lawS1897CNaiveRow.holds Yba.pinned (OpenSpec.ofChange lawS1897CNaiveSpec)

/-- ITS FALSE NEIGHBOUR: 'it returns false'. Refute it at one input. -/
def lawS1897CNaiveWrong : ChangeSpec := { name := "lawS1897CNaive", fn := fun _ => fun
  | [d] => { results := [.lit (.bool false)], args := [d] }
  | _ => none }
def LawS1897CNaiveWrongFalsely : Prop := lawS1897CNaiveRow.holds Yba.pinned (OpenSpec.ofChange lawS1897CNaiveWrong)

/-- 'pattern.LawS1897CRun': WHATEVER THE INPUT: true; the input reads as it did. -/
def lawS1897CRunSpec : ChangeSpec := { name := "lawS1897CRun", fn := fun _ => fun
  | [d1, d2] => { results := [.lit (.bool true)], args := [d1, d2] }
  | _ => none }
def lawS1897CRunRow : OpenClaim := { program := "ybulkamgm", sum := "81cebfb7d948a8fd88473fda90d6e187ae6d6c58bc2a19afd3cf76c1fe7fca21", func := "example.com/verdict/verdict/internal/pattern.LawS1897CRun", spec := "lawS1897CRun", inPlace := ["internal/abi.NoEscape", "internal/bytealg.MakeNoZero"], apart := false }
def LawS1897CRunSaid : Prop := lawS1897CRunRow.holds Yba.pinned (OpenSpec.ofChange lawS1897CRunSpec)

/-- ITS FALSE NEIGHBOUR: 'it returns false'. Refute it at one input. -/
def lawS1897CRunWrong : ChangeSpec := { name := "lawS1897CRun", fn := fun _ => fun
  | [d1, d2] => { results := [.lit (.bool false)], args := [d1, d2] }
  | _ => none }
def LawS1897CRunWrongFalsely : Prop := lawS1897CRunRow.holds Yba.pinned (OpenSpec.ofChange lawS1897CRunWrong)

end Rows
end Go.Proofs.Ybulkamgm
