/-
  DERIVED. GIVEN WITH THE SEED: THE CARDS: each row of YbulkaxhmFmtRows.lean that lists a variable, with what it lists TIED to the program's text (the seventh form; the later family's looks); each row that meets fmt, with fmt's text TOLD by the authors' own Lean function (tested against real Go, not proved from fmt's source: count such statements apart). THE CARD IS WHAT COUNTS. Prove the row's statement (the work); the ties are given (YbulkaxhmFmtTie.lean); close each card by the builder's one call (the guide's Derived/Test/ToyasCard.lean, 'card_holds'). Laid BY PROGRAM, IN A SANDBOX (cutbox-door.mjs). By AI agents, Wed Nov 11 2026. No macro, syntax, notation, axiom, sorry.
-/
import Derived.Test.YbulkaxhmFmtRows
import GoSem.ClaimSeven
namespace Go.Proofs.YbulkaxhmFmt
namespace Rows

/-- THE TOLD CARD OF 'dnsmsg.LawS2430BRoundTrip'. -/
def lawS2430BRoundTripCard : Claim7 := { stood := { row := lawS2430BRoundTripRow, standIns := [], harness := (true, "9593930cb8264da3af7ecd0cc9657aab9abaa97babb597510090e9b4393fa02b"), looks := false }, told := true, goes := false }
def LawS2430BRoundTripToldSaid : Prop := Claim7.holds Ybaf.pinned (.plain (OpenSpec.ofChange lawS2430BRoundTripSpec)) lawS2430BRoundTripCard
/-- ITS FALSE NEIGHBOUR. Refute it at one input. -/
def LawS2430BRoundTripToldWrongFalsely : Prop := Claim7.holds Ybaf.pinned (.plain (OpenSpec.ofChange lawS2430BRoundTripWrong)) lawS2430BRoundTripCard

/-- THE TOLD CARD OF 'dnsmsg.LawS2430BWellFormed'. -/
def lawS2430BWellFormedCard : Claim7 := { stood := { row := lawS2430BWellFormedRow, standIns := [], harness := (true, "9593930cb8264da3af7ecd0cc9657aab9abaa97babb597510090e9b4393fa02b"), looks := false }, told := true, goes := false }
def LawS2430BWellFormedToldSaid : Prop := Claim7.holds Ybaf.pinned (.plain (OpenSpec.ofChange lawS2430BWellFormedSpec)) lawS2430BWellFormedCard
/-- ITS FALSE NEIGHBOUR. Refute it at one input. -/
def LawS2430BWellFormedToldWrongFalsely : Prop := Claim7.holds Ybaf.pinned (.plain (OpenSpec.ofChange lawS2430BWellFormedWrong)) lawS2430BWellFormedCard

/-- THE TOLD CARD OF 'dnsmsg.LawS2430CDecodes'. -/
def lawS2430CDecodesCard : Claim7 := { stood := { row := lawS2430CDecodesRow, standIns := [], harness := (true, "9593930cb8264da3af7ecd0cc9657aab9abaa97babb597510090e9b4393fa02b"), looks := false }, told := true, goes := false }
def LawS2430CDecodesToldSaid : Prop := Claim7.holds Ybaf.pinned (.plain (OpenSpec.ofChange lawS2430CDecodesSpec)) lawS2430CDecodesCard
/-- ITS FALSE NEIGHBOUR. Refute it at one input. -/
def LawS2430CDecodesToldWrongFalsely : Prop := Claim7.holds Ybaf.pinned (.plain (OpenSpec.ofChange lawS2430CDecodesWrong)) lawS2430CDecodesCard

/-- THE TOLD CARD OF 'dnsmsg.LawS2430CPrefixFails'. -/
def lawS2430CPrefixFailsCard : Claim7 := { stood := { row := lawS2430CPrefixFailsRow, standIns := [], harness := (true, "9593930cb8264da3af7ecd0cc9657aab9abaa97babb597510090e9b4393fa02b"), looks := false }, told := true, goes := false }
def LawS2430CPrefixFailsToldSaid : Prop := Claim7.holds Ybaf.pinned (.plain (OpenSpec.ofChange lawS2430CPrefixFailsSpec)) lawS2430CPrefixFailsCard
/-- ITS FALSE NEIGHBOUR. Refute it at one input. -/
def LawS2430CPrefixFailsToldWrongFalsely : Prop := Claim7.holds Ybaf.pinned (.plain (OpenSpec.ofChange lawS2430CPrefixFailsWrong)) lawS2430CPrefixFailsCard

/-- THE TOLD CARD OF 'dnsmsg.LawS2430CTwoOPT'. -/
def lawS2430CTwoOPTCard : Claim7 := { stood := { row := lawS2430CTwoOPTRow, standIns := [], harness := (true, "9593930cb8264da3af7ecd0cc9657aab9abaa97babb597510090e9b4393fa02b"), looks := false }, told := true, goes := false }
def LawS2430CTwoOPTToldSaid : Prop := Claim7.holds Ybaf.pinned (.plain (OpenSpec.ofChange lawS2430CTwoOPTSpec)) lawS2430CTwoOPTCard
/-- ITS FALSE NEIGHBOUR. Refute it at one input. -/
def LawS2430CTwoOPTToldWrongFalsely : Prop := Claim7.holds Ybaf.pinned (.plain (OpenSpec.ofChange lawS2430CTwoOPTWrong)) lawS2430CTwoOPTCard
end Rows
end Go.Proofs.YbulkaxhmFmt
