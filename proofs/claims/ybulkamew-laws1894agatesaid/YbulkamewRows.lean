/-
  No cell of these rows narrows 'for every input' (looked for: loops, veiled, ifaces, maps, wideKeys, modest, calm, conditions, laid).
  DERIVED. THE GIVEN ROWS OF THIS SEAT. 2 by the template 'for every input the law returns true; each argument reads behind the call as it read before'; 0 by the template 'total and deterministic' (their statements: YbulkamewTotals.lean).
  GIVEN WITH THE SEED: the statements are not yours to turn. If you find one false, say at which input.
  Laid BY PROGRAM, IN A SANDBOX (cutbox-rows.mjs): the forced cells as the released guide's own fill.sh prints them over the translation 2ed5efec454429fd… (all of the seat's roots in one cut). By AI agents, Wed Nov 11 2026. No macro, syntax, notation, axiom, sorry.
-/
import Derived.Test.YbulkamewChecked
import GoSem.Claim
import GoSem.ClaimJoined
import GoSem.ClaimMapViews
import Derived.JoinedTies
import Derived.KernelRfl
namespace Go.Proofs.Ybulkamew
/- THE CELL 'sum', in the pinned program and in every row, IS THE sha256 OF THE DUMP (.gsa) THAT YbulkamewProg.lean LOADS. Nothing in Lean hashes anything: it is a label: what it is worth is what the hold of that sum in a sandbox is worth. -/
noncomputable def Yba.pinned : Pinned := { name := "ybulkamew", sum := "2ed5efec454429fd2725df946c63463b302c163e6aefa2068c2b43ae5dfe9c04", checked := Yba.checked }
namespace Rows
def none {H : Type} : Left H := { results := [], args := [] }

/-- 'eval.LawS1894APlace': WHATEVER THE INPUT: true; the input reads as it did. -/
def lawS1894APlaceSpec : ChangeSpec := { name := "lawS1894APlace", fn := fun _ => fun
  | [d1, d2, d3, d4, d5] => { results := [.lit (.bool true)], args := [d1, d2, d3, d4, d5] }
  | _ => none }
def lawS1894APlaceRow : OpenClaim := { program := "ybulkamew", sum := "2ed5efec454429fd2725df946c63463b302c163e6aefa2068c2b43ae5dfe9c04", func := "example.com/narro/narro/eval.LawS1894APlace", spec := "lawS1894APlace", unfollowed := true, recurses := true, plainKeys := false, apart := false }
def LawS1894APlaceSaid : Prop := lawS1894APlaceRow.holds Yba.pinned (OpenSpec.ofChange lawS1894APlaceSpec)

/-- ITS FALSE NEIGHBOUR: 'it returns false'. Refute it at one input. -/
def lawS1894APlaceWrong : ChangeSpec := { name := "lawS1894APlace", fn := fun _ => fun
  | [d1, d2, d3, d4, d5] => { results := [.lit (.bool false)], args := [d1, d2, d3, d4, d5] }
  | _ => none }
def LawS1894APlaceWrongFalsely : Prop := lawS1894APlaceRow.holds Yba.pinned (OpenSpec.ofChange lawS1894APlaceWrong)

/-- 'eval.LawS1894AGate': WHATEVER THE INPUT: true; the input reads as it did. -/
def lawS1894AGateSpec : ChangeSpec := { name := "lawS1894AGate", fn := fun _ => fun
  | [d1, d2] => { results := [.lit (.bool true)], args := [d1, d2] }
  | _ => none }
def lawS1894AGateRow : OpenClaim := { program := "ybulkamew", sum := "2ed5efec454429fd2725df946c63463b302c163e6aefa2068c2b43ae5dfe9c04", func := "example.com/narro/narro/eval.LawS1894AGate", spec := "lawS1894AGate", unfollowed := true, recurses := true, plainKeys := false, apart := false }
def LawS1894AGateSaid : Prop := lawS1894AGateRow.holds Yba.pinned (OpenSpec.ofChange lawS1894AGateSpec)

/-- ITS FALSE NEIGHBOUR: 'it returns false'. Refute it at one input. -/
def lawS1894AGateWrong : ChangeSpec := { name := "lawS1894AGate", fn := fun _ => fun
  | [d1, d2] => { results := [.lit (.bool false)], args := [d1, d2] }
  | _ => none }
def LawS1894AGateWrongFalsely : Prop := lawS1894AGateRow.holds Yba.pinned (OpenSpec.ofChange lawS1894AGateWrong)

end Rows
end Go.Proofs.Ybulkamew
