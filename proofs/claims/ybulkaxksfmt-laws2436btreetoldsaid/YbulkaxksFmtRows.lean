/-
  NARROWER THAN 'FOR EVERY INPUT', by the rows' own cells (each row's printed sentence says how): LawS2436BFields: laid · LawS2436BTree: laid.
  DERIVED. THE GIVEN ROWS OF THIS SEAT. 2 by the template 'for every input the law returns true; each argument reads behind the call as it read before'; 0 by the template 'total and deterministic' (their statements: YbulkaxksFmtTotals.lean).
  GIVEN WITH THE SEED: the statements are not yours to turn. If you find one false, say at which input.
  Laid BY PROGRAM, IN A SANDBOX (cutbox-rows.mjs): the forced cells as the released guide's own fill.sh prints them over the translation fc620a38a9e3d617… (all of the seat's roots in one cut). By AI agents, Wed Nov 11 2026. No macro, syntax, notation, axiom, sorry.
-/
import Derived.Test.YbulkaxksFmtChecked
import GoSem.Claim
import GoSem.ClaimJoined
import GoSem.ClaimMapViews
import Derived.JoinedTies
import Derived.KernelRfl
namespace Go.Proofs.YbulkaxksFmt
/- THE CELL 'sum', in the pinned program and in every row, IS THE sha256 OF THE DUMP (.gsa) THAT YbulkaxksFmtProg.lean LOADS. Nothing in Lean hashes anything: it is a label: what it is worth is what the hold of that sum in a sandbox is worth. -/
noncomputable def Ybaf.pinned : Pinned := { name := "ybulkaxksfmt", sum := "fc620a38a9e3d6173b8affd6392ba1fd0589a37498417882b20d81182e0eef97", checked := Ybaf.checked }
namespace Rows
def none {H : Type} : Left H := { results := [], args := [] }

/- WHAT THE LISTED PACKAGE-LEVEL VARIABLES READ AS WHEN THE CALL BEGINS. Each datum BY PROGRAM (the guide's laid-datum.mjs) off the statement by which the dump's own 'gosem.cut.vars' lays the variable. In a bare row this is a premise. The card (YbulkaxksFmtCards.lean) ties it to the program's text. -/
def laid_example_com_concordat_concordat_healths {H : Type} : DataW H := .agg [.agg [.lit (.string [103, 101, 110, 101, 114, 97, 108]), .lit (.bool true), .lit (.bool true)], .agg [.lit (.string [102, 97, 117, 108, 116, 45, 102, 114, 101, 101]), .lit (.bool false), .lit (.bool false)], .agg [.lit (.string [108, 105, 110, 107, 115]), .lit (.bool false), .lit (.bool true)], .agg [.lit (.string [112, 114, 111, 99, 101, 115, 115, 111, 114, 115]), .lit (.bool true), .lit (.bool false)]]

/-- 'concordat.LawS2436BFields': WHATEVER THE INPUT: true; the input reads as it did. -/
def lawS2436BFieldsSpec : ChangeSpec := { name := "lawS2436BFields", vars := ["example.com/concordat/concordat.healths"], fn := fun _ => fun
  | [d, g1] => { results := [.lit (.bool true)], args := [d], vars := [g1] }
  | _ => none }
def lawS2436BFieldsRow : OpenClaim := { program := "ybulkaxksfmt", sum := "fc620a38a9e3d6173b8affd6392ba1fd0589a37498417882b20d81182e0eef97", func := "example.com/concordat/concordat.LawS2436BFields", spec := "lawS2436BFields", stops := ["fmt.errorf"], inPlace := ["fmt.errorf", "slices.overlaps[int]"], named := ["example.com/concordat/concordat.healths"], plainKeys := false, apart := false, laid := [("example.com/concordat/concordat.healths", laid_example_com_concordat_concordat_healths)] }
/-- NO THEOREM (fmt's text is open here; it may be false): for the released tool's asking of the row's closed facts alone. THE STATEMENT IS 'LawS2436BFieldsToldSaid' (YbulkaxksFmtCards.lean). -/
def LawS2436BFieldsFormAsk : Prop := lawS2436BFieldsRow.holds Ybaf.pinned (OpenSpec.ofChange lawS2436BFieldsSpec)

/-- ITS FALSE NEIGHBOUR: 'it returns false'. Refute it at one input. -/
def lawS2436BFieldsWrong : ChangeSpec := { name := "lawS2436BFields", vars := ["example.com/concordat/concordat.healths"], fn := fun _ => fun
  | [d, g1] => { results := [.lit (.bool false)], args := [d], vars := [g1] }
  | _ => none }
def LawS2436BFieldsWrongFormAsk : Prop := lawS2436BFieldsRow.holds Ybaf.pinned (OpenSpec.ofChange lawS2436BFieldsWrong)

/-- 'concordat.LawS2436BTree': WHATEVER THE INPUT: true; the input reads as it did. -/
def lawS2436BTreeSpec : ChangeSpec := { name := "lawS2436BTree", vars := ["example.com/concordat/concordat.healths"], fn := fun _ => fun
  | [d, g1] => { results := [.lit (.bool true)], args := [d], vars := [g1] }
  | _ => none }
def lawS2436BTreeRow : OpenClaim := { program := "ybulkaxksfmt", sum := "fc620a38a9e3d6173b8affd6392ba1fd0589a37498417882b20d81182e0eef97", func := "example.com/concordat/concordat.LawS2436BTree", spec := "lawS2436BTree", stops := ["fmt.errorf"], inPlace := ["fmt.errorf", "slices.overlaps[int]"], named := ["example.com/concordat/concordat.healths"], plainKeys := false, apart := false, laid := [("example.com/concordat/concordat.healths", laid_example_com_concordat_concordat_healths)] }
/-- NO THEOREM (fmt's text is open here; it may be false): for the released tool's asking of the row's closed facts alone. THE STATEMENT IS 'LawS2436BTreeToldSaid' (YbulkaxksFmtCards.lean). -/
def LawS2436BTreeFormAsk : Prop := lawS2436BTreeRow.holds Ybaf.pinned (OpenSpec.ofChange lawS2436BTreeSpec)

/-- ITS FALSE NEIGHBOUR: 'it returns false'. Refute it at one input. -/
def lawS2436BTreeWrong : ChangeSpec := { name := "lawS2436BTree", vars := ["example.com/concordat/concordat.healths"], fn := fun _ => fun
  | [d, g1] => { results := [.lit (.bool false)], args := [d], vars := [g1] }
  | _ => none }
def LawS2436BTreeWrongFormAsk : Prop := lawS2436BTreeRow.holds Ybaf.pinned (OpenSpec.ofChange lawS2436BTreeWrong)

end Rows
end Go.Proofs.YbulkaxksFmt
