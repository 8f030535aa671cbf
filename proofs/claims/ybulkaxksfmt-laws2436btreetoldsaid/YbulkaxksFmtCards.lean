/-
  DERIVED. GIVEN WITH THE SEED: THE CARDS: each row of YbulkaxksFmtRows.lean that lists a variable, with what it lists TIED to the program's text (the seventh form; the later family's looks); each row that meets fmt, with fmt's text TOLD by the authors' own Lean function (tested against real Go, not proved from fmt's source: count such statements apart). THE CARD IS WHAT COUNTS. Prove the row's statement (the work); the ties are given (YbulkaxksFmtTie.lean); close each card by the builder's one call (the guide's Derived/Test/ToyasCard.lean, 'card_holds'). Laid BY PROGRAM, IN A SANDBOX (cutbox-door.mjs). By AI agents, Wed Nov 11 2026. No macro, syntax, notation, axiom, sorry.
-/
import Derived.Test.YbulkaxksFmtRows
import GoSem.ClaimSeven
namespace Go.Proofs.YbulkaxksFmt
namespace Rows

/-- THE TOLD AND TIED CARD OF 'concordat.LawS2436BFields'. -/
def lawS2436BFieldsCard : Claim7 := { stood := { row := lawS2436BFieldsRow, standIns := [], harness := (true, "d7d621b449d4a6271e0167b549fd79c63ed1b592c9ee4055b7f3d70c80df1178"), looks := false }, told := true, laidByText := true, laidKinds := [.data], laidTests := true, laidLooks := .later, goes := false }
def LawS2436BFieldsToldSaid : Prop := Claim7.holds Ybaf.pinned (.plain (OpenSpec.ofChange lawS2436BFieldsSpec)) lawS2436BFieldsCard
/-- ITS FALSE NEIGHBOUR. Refute it at one input. -/
def LawS2436BFieldsToldWrongFalsely : Prop := Claim7.holds Ybaf.pinned (.plain (OpenSpec.ofChange lawS2436BFieldsWrong)) lawS2436BFieldsCard

/-- THE TOLD AND TIED CARD OF 'concordat.LawS2436BTree'. -/
def lawS2436BTreeCard : Claim7 := { stood := { row := lawS2436BTreeRow, standIns := [], harness := (true, "d7d621b449d4a6271e0167b549fd79c63ed1b592c9ee4055b7f3d70c80df1178"), looks := false }, told := true, laidByText := true, laidKinds := [.data], laidTests := true, laidLooks := .later, goes := false }
def LawS2436BTreeToldSaid : Prop := Claim7.holds Ybaf.pinned (.plain (OpenSpec.ofChange lawS2436BTreeSpec)) lawS2436BTreeCard
/-- ITS FALSE NEIGHBOUR. Refute it at one input. -/
def LawS2436BTreeToldWrongFalsely : Prop := Claim7.holds Ybaf.pinned (.plain (OpenSpec.ofChange lawS2436BTreeWrong)) lawS2436BTreeCard
end Rows
end Go.Proofs.YbulkaxksFmt
