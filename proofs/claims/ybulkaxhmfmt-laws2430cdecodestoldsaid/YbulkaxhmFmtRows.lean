/-
  No cell of these rows narrows 'for every input' (looked for: loops, veiled, ifaces, maps, wideKeys, modest, calm, conditions, laid).
  DERIVED. THE GIVEN ROWS OF THIS SEAT. 5 by the template 'for every input the law returns true; each argument reads behind the call as it read before'; 0 by the template 'total and deterministic' (their statements: YbulkaxhmFmtTotals.lean).
  GIVEN WITH THE SEED: the statements are not yours to turn. If you find one false, say at which input.
  Laid BY PROGRAM, IN A SANDBOX (cutbox-rows.mjs): the forced cells as the released guide's own fill.sh prints them over the translation 3bb0bf7eaee2a25c… (all of the seat's roots in one cut). By AI agents, Wed Nov 11 2026. No macro, syntax, notation, axiom, sorry.
-/
import Derived.Test.YbulkaxhmFmtChecked
import GoSem.Claim
import GoSem.ClaimJoined
import GoSem.ClaimMapViews
import Derived.JoinedTies
import Derived.KernelRfl
namespace Go.Proofs.YbulkaxhmFmt
/- THE CELL 'sum', in the pinned program and in every row, IS THE sha256 OF THE DUMP (.gsa) THAT YbulkaxhmFmtProg.lean LOADS. Nothing in Lean hashes anything: it is a label: what it is worth is what the hold of that sum in a sandbox is worth. -/
noncomputable def Ybaf.pinned : Pinned := { name := "ybulkaxhmfmt", sum := "3bb0bf7eaee2a25c9a7f30671bb8e77acc1e1e61e4926bd811b16fde89e83df3", checked := Ybaf.checked }
namespace Rows
def none {H : Type} : Left H := { results := [], args := [] }

/-- 'dnsmsg.LawS2430BRoundTrip': WHATEVER THE INPUT: true; the input reads as it did. -/
def lawS2430BRoundTripSpec : ChangeSpec := { name := "lawS2430BRoundTrip", fn := fun _ => fun
  | [d] => { results := [.lit (.bool true)], args := [d] }
  | _ => none }
def lawS2430BRoundTripRow : OpenClaim := { program := "ybulkaxhmfmt", sum := "3bb0bf7eaee2a25c9a7f30671bb8e77acc1e1e61e4926bd811b16fde89e83df3", func := "example.com/anchorwatch/anchorwatch/dnsmsg.LawS2430BRoundTrip", spec := "lawS2430BRoundTrip", stops := ["fmt.errorf"], inPlace := ["fmt.errorf"], apart := false }
/-- NO THEOREM (fmt's text is open here; it may be false): for the released tool's asking of the row's closed facts alone. THE STATEMENT IS 'LawS2430BRoundTripToldSaid' (YbulkaxhmFmtCards.lean). -/
def LawS2430BRoundTripFormAsk : Prop := lawS2430BRoundTripRow.holds Ybaf.pinned (OpenSpec.ofChange lawS2430BRoundTripSpec)

/-- ITS FALSE NEIGHBOUR: 'it returns false'. Refute it at one input. -/
def lawS2430BRoundTripWrong : ChangeSpec := { name := "lawS2430BRoundTrip", fn := fun _ => fun
  | [d] => { results := [.lit (.bool false)], args := [d] }
  | _ => none }
def LawS2430BRoundTripWrongFormAsk : Prop := lawS2430BRoundTripRow.holds Ybaf.pinned (OpenSpec.ofChange lawS2430BRoundTripWrong)

/-- 'dnsmsg.LawS2430BWellFormed': WHATEVER THE INPUT: true; the input reads as it did. -/
def lawS2430BWellFormedSpec : ChangeSpec := { name := "lawS2430BWellFormed", fn := fun _ => fun
  | [d] => { results := [.lit (.bool true)], args := [d] }
  | _ => none }
def lawS2430BWellFormedRow : OpenClaim := { program := "ybulkaxhmfmt", sum := "3bb0bf7eaee2a25c9a7f30671bb8e77acc1e1e61e4926bd811b16fde89e83df3", func := "example.com/anchorwatch/anchorwatch/dnsmsg.LawS2430BWellFormed", spec := "lawS2430BWellFormed", stops := ["fmt.errorf"], inPlace := ["fmt.errorf"], apart := false }
/-- NO THEOREM (fmt's text is open here; it may be false): for the released tool's asking of the row's closed facts alone. THE STATEMENT IS 'LawS2430BWellFormedToldSaid' (YbulkaxhmFmtCards.lean). -/
def LawS2430BWellFormedFormAsk : Prop := lawS2430BWellFormedRow.holds Ybaf.pinned (OpenSpec.ofChange lawS2430BWellFormedSpec)

/-- ITS FALSE NEIGHBOUR: 'it returns false'. Refute it at one input. -/
def lawS2430BWellFormedWrong : ChangeSpec := { name := "lawS2430BWellFormed", fn := fun _ => fun
  | [d] => { results := [.lit (.bool false)], args := [d] }
  | _ => none }
def LawS2430BWellFormedWrongFormAsk : Prop := lawS2430BWellFormedRow.holds Ybaf.pinned (OpenSpec.ofChange lawS2430BWellFormedWrong)

/-- 'dnsmsg.LawS2430CDecodes': WHATEVER THE INPUT: true; the input reads as it did. -/
def lawS2430CDecodesSpec : ChangeSpec := { name := "lawS2430CDecodes", fn := fun _ => fun
  | [d1, d2, d3, d4, d5] => { results := [.lit (.bool true)], args := [d1, d2, d3, d4, d5] }
  | _ => none }
def lawS2430CDecodesRow : OpenClaim := { program := "ybulkaxhmfmt", sum := "3bb0bf7eaee2a25c9a7f30671bb8e77acc1e1e61e4926bd811b16fde89e83df3", func := "example.com/anchorwatch/anchorwatch/dnsmsg.LawS2430CDecodes", spec := "lawS2430CDecodes", stops := ["fmt.errorf"], inPlace := ["fmt.errorf"], unfollowed := true, recurses := true, named := ["encoding/binary.BigEndian"], apart := false }
/-- NO THEOREM (fmt's text is open here; it may be false): for the released tool's asking of the row's closed facts alone. THE STATEMENT IS 'LawS2430CDecodesToldSaid' (YbulkaxhmFmtCards.lean). -/
def LawS2430CDecodesFormAsk : Prop := lawS2430CDecodesRow.holds Ybaf.pinned (OpenSpec.ofChange lawS2430CDecodesSpec)

/-- ITS FALSE NEIGHBOUR: 'it returns false'. Refute it at one input. -/
def lawS2430CDecodesWrong : ChangeSpec := { name := "lawS2430CDecodes", fn := fun _ => fun
  | [d1, d2, d3, d4, d5] => { results := [.lit (.bool false)], args := [d1, d2, d3, d4, d5] }
  | _ => none }
def LawS2430CDecodesWrongFormAsk : Prop := lawS2430CDecodesRow.holds Ybaf.pinned (OpenSpec.ofChange lawS2430CDecodesWrong)

/-- 'dnsmsg.LawS2430CPrefixFails': WHATEVER THE INPUT: true; the input reads as it did. -/
def lawS2430CPrefixFailsSpec : ChangeSpec := { name := "lawS2430CPrefixFails", fn := fun _ => fun
  | [d1, d2, d3, d4, d5, d6] => { results := [.lit (.bool true)], args := [d1, d2, d3, d4, d5, d6] }
  | _ => none }
def lawS2430CPrefixFailsRow : OpenClaim := { program := "ybulkaxhmfmt", sum := "3bb0bf7eaee2a25c9a7f30671bb8e77acc1e1e61e4926bd811b16fde89e83df3", func := "example.com/anchorwatch/anchorwatch/dnsmsg.LawS2430CPrefixFails", spec := "lawS2430CPrefixFails", stops := ["fmt.errorf"], inPlace := ["fmt.errorf"], unfollowed := true, recurses := true, named := ["encoding/binary.BigEndian"], apart := false }
/-- NO THEOREM (fmt's text is open here; it may be false): for the released tool's asking of the row's closed facts alone. THE STATEMENT IS 'LawS2430CPrefixFailsToldSaid' (YbulkaxhmFmtCards.lean). -/
def LawS2430CPrefixFailsFormAsk : Prop := lawS2430CPrefixFailsRow.holds Ybaf.pinned (OpenSpec.ofChange lawS2430CPrefixFailsSpec)

/-- ITS FALSE NEIGHBOUR: 'it returns false'. Refute it at one input. -/
def lawS2430CPrefixFailsWrong : ChangeSpec := { name := "lawS2430CPrefixFails", fn := fun _ => fun
  | [d1, d2, d3, d4, d5, d6] => { results := [.lit (.bool false)], args := [d1, d2, d3, d4, d5, d6] }
  | _ => none }
def LawS2430CPrefixFailsWrongFormAsk : Prop := lawS2430CPrefixFailsRow.holds Ybaf.pinned (OpenSpec.ofChange lawS2430CPrefixFailsWrong)

/-- 'dnsmsg.LawS2430CTwoOPT': WHATEVER THE INPUT: true; the input reads as it did. -/
def lawS2430CTwoOPTSpec : ChangeSpec := { name := "lawS2430CTwoOPT", fn := fun _ => fun
  | [d1, d2, d3, d4] => { results := [.lit (.bool true)], args := [d1, d2, d3, d4] }
  | _ => none }
def lawS2430CTwoOPTRow : OpenClaim := { program := "ybulkaxhmfmt", sum := "3bb0bf7eaee2a25c9a7f30671bb8e77acc1e1e61e4926bd811b16fde89e83df3", func := "example.com/anchorwatch/anchorwatch/dnsmsg.LawS2430CTwoOPT", spec := "lawS2430CTwoOPT", stops := ["fmt.errorf"], inPlace := ["fmt.errorf"], unfollowed := true, recurses := true, named := ["encoding/binary.BigEndian"], apart := false }
/-- NO THEOREM (fmt's text is open here; it may be false): for the released tool's asking of the row's closed facts alone. THE STATEMENT IS 'LawS2430CTwoOPTToldSaid' (YbulkaxhmFmtCards.lean). -/
def LawS2430CTwoOPTFormAsk : Prop := lawS2430CTwoOPTRow.holds Ybaf.pinned (OpenSpec.ofChange lawS2430CTwoOPTSpec)

/-- ITS FALSE NEIGHBOUR: 'it returns false'. Refute it at one input. -/
def lawS2430CTwoOPTWrong : ChangeSpec := { name := "lawS2430CTwoOPT", fn := fun _ => fun
  | [d1, d2, d3, d4] => { results := [.lit (.bool false)], args := [d1, d2, d3, d4] }
  | _ => none }
def LawS2430CTwoOPTWrongFormAsk : Prop := lawS2430CTwoOPTRow.holds Ybaf.pinned (OpenSpec.ofChange lawS2430CTwoOPTWrong)

end Rows
end Go.Proofs.YbulkaxhmFmt
