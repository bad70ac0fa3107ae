/-
  No cell of these rows narrows 'for every input' (looked for: loops, veiled, ifaces, maps, wideKeys, modest, calm, conditions, laid).
  DERIVED. THE GIVEN ROWS OF THIS SEAT. 2 by the template 'for every input the law returns true; each argument reads behind the call as it read before'; 0 by the template 'total and deterministic' (their statements: YbulkcuiaTotals.lean).
  GIVEN WITH THE SEED: the statements are not yours to turn. If you find one false, say at which input.
  Laid BY PROGRAM, IN A SANDBOX (cutbox-rows.mjs): the forced cells as the released guide's own fill.sh prints them over the translation dc234a884eaa42a3… (all of the seat's roots in one cut). By AI agents, Wed Nov 11 2026. No macro, syntax, notation, axiom, sorry.
-/
import Derived.Test.YbulkcuiaChecked
import GoSem.Claim
import GoSem.ClaimJoined
import GoSem.ClaimMapViews
import Derived.JoinedTies
import Derived.KernelRfl
namespace Go.Proofs.Ybulkcuia
/- THE CELL 'sum', in the pinned program and in every row, IS THE sha256 OF THE DUMP (.gsa) THAT YbulkcuiaProg.lean LOADS. Nothing in Lean hashes anything: it is a label: what it is worth is what the hold of that sum in a sandbox is worth. -/
noncomputable def Yba.pinned : Pinned := { name := "ybulkcuia", sum := "dc234a884eaa42a3c5728fed9dd1ced8819728e603835473e9e6d114f6703160", checked := Yba.checked }
namespace Rows
def none {H : Type} : Left H := { results := [], args := [] }

/-- 'mapsec.LawS4797BModel': WHATEVER THE INPUT: true; the input reads as it did. -/
def lawS4797BModelSpec : ChangeSpec := { name := "lawS4797BModel", fn := fun _ => fun
  | [d1, d2, d3, d4] => { results := [.lit (.bool true)], args := [d1, d2, d3, d4] }
  | _ => none }
def lawS4797BModelRow : OpenClaim := { program := "ybulkcuia", sum := "dc234a884eaa42a3c5728fed9dd1ced8819728e603835473e9e6d114f6703160", func := "example.com/keystile/keystile/mapsec.LawS4797BModel", spec := "lawS4797BModel", apart := false }
def LawS4797BModelSaid : Prop := lawS4797BModelRow.holds Yba.pinned (OpenSpec.ofChange lawS4797BModelSpec)

/-- ITS FALSE NEIGHBOUR: 'it returns false'. Refute it at one input. -/
def lawS4797BModelWrong : ChangeSpec := { name := "lawS4797BModel", fn := fun _ => fun
  | [d1, d2, d3, d4] => { results := [.lit (.bool false)], args := [d1, d2, d3, d4] }
  | _ => none }
def LawS4797BModelWrongFalsely : Prop := lawS4797BModelRow.holds Yba.pinned (OpenSpec.ofChange lawS4797BModelWrong)

/-- 'mapsec.LawS4797BRing': WHATEVER THE INPUT: true; the input reads as it did. -/
def lawS4797BRingSpec : ChangeSpec := { name := "lawS4797BRing", fn := fun _ => fun
  | [d1, d2, d3, d4, d5, d6] => { results := [.lit (.bool true)], args := [d1, d2, d3, d4, d5, d6] }
  | _ => none }
def lawS4797BRingRow : OpenClaim := { program := "ybulkcuia", sum := "dc234a884eaa42a3c5728fed9dd1ced8819728e603835473e9e6d114f6703160", func := "example.com/keystile/keystile/mapsec.LawS4797BRing", spec := "lawS4797BRing", apart := false }
def LawS4797BRingSaid : Prop := lawS4797BRingRow.holds Yba.pinned (OpenSpec.ofChange lawS4797BRingSpec)

/-- ITS FALSE NEIGHBOUR: 'it returns false'. Refute it at one input. -/
def lawS4797BRingWrong : ChangeSpec := { name := "lawS4797BRing", fn := fun _ => fun
  | [d1, d2, d3, d4, d5, d6] => { results := [.lit (.bool false)], args := [d1, d2, d3, d4, d5, d6] }
  | _ => none }
def LawS4797BRingWrongFalsely : Prop := lawS4797BRingRow.holds Yba.pinned (OpenSpec.ofChange lawS4797BRingWrong)

end Rows
end Go.Proofs.Ybulkcuia
