/-
  DERIVED. GIVEN WITH THE SEED: THE CARDS: each row of YbulkcuiaFmtRows.lean that lists a variable, with what it lists TIED to the program's text (the seventh form; the later family's looks); each row that meets fmt, with fmt's text TOLD by the authors' own Lean function (tested against real Go, not proved from fmt's source: count such statements apart). THE CARD IS WHAT COUNTS. Prove the row's statement (the work); the ties are given (YbulkcuiaFmtTie.lean); close each card by the builder's one call (the guide's Derived/Test/ToyasCard.lean, 'card_holds'). Laid BY PROGRAM, IN A SANDBOX (cutbox-door.mjs). By AI agents, Wed Nov 11 2026. No macro, syntax, notation, axiom, sorry.
-/
import Derived.Test.YbulkcuiaFmtRows
import GoSem.ClaimSeven
namespace Go.Proofs.YbulkcuiaFmt
namespace Rows

/-- THE TOLD CARD OF 'mapsec.LawS4797AWellFormed'. -/
def lawS4797AWellFormedCard : Claim7 := { stood := { row := lawS4797AWellFormedRow, standIns := [], harness := (true, "5f823f7d95f834d5708865fb6c769790ff4368114b48cdd074364b1e39e06fde"), looks := true }, told := true, goes := false }
def LawS4797AWellFormedToldSaid : Prop := Claim7.holds Ybaf.pinned (.plain (OpenSpec.ofChange lawS4797AWellFormedSpec)) lawS4797AWellFormedCard
/-- ITS FALSE NEIGHBOUR. Refute it at one input. -/
def LawS4797AWellFormedToldWrongFalsely : Prop := Claim7.holds Ybaf.pinned (.plain (OpenSpec.ofChange lawS4797AWellFormedWrong)) lawS4797AWellFormedCard

/-- THE TOLD CARD OF 'mapsec.LawS4797AAnyPLMN'. -/
def lawS4797AAnyPLMNCard : Claim7 := { stood := { row := lawS4797AAnyPLMNRow, standIns := [], harness := (true, "5f823f7d95f834d5708865fb6c769790ff4368114b48cdd074364b1e39e06fde"), looks := true }, told := true, goes := false }
def LawS4797AAnyPLMNToldSaid : Prop := Claim7.holds Ybaf.pinned (.plain (OpenSpec.ofChange lawS4797AAnyPLMNSpec)) lawS4797AAnyPLMNCard
/-- ITS FALSE NEIGHBOUR. Refute it at one input. -/
def LawS4797AAnyPLMNToldWrongFalsely : Prop := Claim7.holds Ybaf.pinned (.plain (OpenSpec.ofChange lawS4797AAnyPLMNWrong)) lawS4797AAnyPLMNCard

/-- THE TOLD AND TIED CARD OF 'secagree.LawS4797CModel'. -/
def lawS4797CModelCard : Claim7 := { stood := { row := lawS4797CModelRow, standIns := [], harness := (true, "5f823f7d95f834d5708865fb6c769790ff4368114b48cdd074364b1e39e06fde"), looks := true }, told := true, laidByText := true, laidKinds := [.data, .data, .data, .data, .sentinel, .sentinel, .data, .data, .data, .widerDeep, .pinned, .pinned], laidTests := true, laidLooks := .later, goes := false }
def LawS4797CModelToldSaid : Prop := Claim7.holds Ybaf.pinned (.plain (OpenSpec.ofChange lawS4797CModelSpec)) lawS4797CModelCard
/-- ITS FALSE NEIGHBOUR. Refute it at one input. -/
def LawS4797CModelToldWrongFalsely : Prop := Claim7.holds Ybaf.pinned (.plain (OpenSpec.ofChange lawS4797CModelWrong)) lawS4797CModelCard

/-- THE TOLD AND TIED CARD OF 'secagree.LawS4797CRaw'. -/
def lawS4797CRawCard : Claim7 := { stood := { row := lawS4797CRawRow, standIns := [], harness := (true, "5f823f7d95f834d5708865fb6c769790ff4368114b48cdd074364b1e39e06fde"), looks := true }, told := true, laidByText := true, laidKinds := [.data, .data, .data, .data, .sentinel, .sentinel, .data, .data, .data, .widerDeep, .pinned, .pinned], laidTests := true, laidLooks := .later, goes := false }
def LawS4797CRawToldSaid : Prop := Claim7.holds Ybaf.pinned (.plain (OpenSpec.ofChange lawS4797CRawSpec)) lawS4797CRawCard
/-- ITS FALSE NEIGHBOUR. Refute it at one input. -/
def LawS4797CRawToldWrongFalsely : Prop := Claim7.holds Ybaf.pinned (.plain (OpenSpec.ofChange lawS4797CRawWrong)) lawS4797CRawCard
end Rows
end Go.Proofs.YbulkcuiaFmt
