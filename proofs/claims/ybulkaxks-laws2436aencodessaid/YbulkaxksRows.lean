/-
  No cell of these rows narrows 'for every input' (looked for: loops, veiled, ifaces, maps, wideKeys, modest, calm, conditions, laid).
  DERIVED. THE GIVEN ROWS OF THIS SEAT. 1 by the template 'for every input the law returns true; each argument reads behind the call as it read before'; 0 by the template 'total and deterministic' (their statements: YbulkaxksTotals.lean).
  GIVEN WITH THE SEED: the statements are not yours to turn. If you find one false, say at which input.
  Laid BY PROGRAM, IN A SANDBOX (cutbox-rows.mjs): the forced cells as the released guide's own fill.sh prints them over the translation 1dc33ca87536f9bf… (all of the seat's roots in one cut). By AI agents, Wed Nov 11 2026. No macro, syntax, notation, axiom, sorry.
-/
import Derived.Test.YbulkaxksChecked
import GoSem.Claim
import GoSem.ClaimJoined
import GoSem.ClaimMapViews
import Derived.JoinedTies
import Derived.KernelRfl
namespace Go.Proofs.Ybulkaxks
/- THE CELL 'sum', in the pinned program and in every row, IS THE sha256 OF THE DUMP (.gsa) THAT YbulkaxksProg.lean LOADS. Nothing in Lean hashes anything: it is a label: what it is worth is what the hold of that sum in a sandbox is worth. -/
noncomputable def Yba.pinned : Pinned := { name := "ybulkaxks", sum := "1dc33ca87536f9bf2a8dfc44f6a2b8be89fdd927112fbdbd22181ed5bccc51e0", checked := Yba.checked }
namespace Rows
def none {H : Type} : Left H := { results := [], args := [] }

/-- 'concordat.LawS2436AEncodes': WHATEVER THE INPUT: true; the input reads as it did. -/
def lawS2436AEncodesSpec : ChangeSpec := { name := "lawS2436AEncodes", fn := fun _ => fun
  | [d1, d2] => { results := [.lit (.bool true)], args := [d1, d2] }
  | _ => none }
def lawS2436AEncodesRow : OpenClaim := { program := "ybulkaxks", sum := "1dc33ca87536f9bf2a8dfc44f6a2b8be89fdd927112fbdbd22181ed5bccc51e0", func := "example.com/concordat/concordat.LawS2436AEncodes", spec := "lawS2436AEncodes", named := ["encoding/binary.BigEndian"], apart := false }
def LawS2436AEncodesSaid : Prop := lawS2436AEncodesRow.holds Yba.pinned (OpenSpec.ofChange lawS2436AEncodesSpec)

/-- ITS FALSE NEIGHBOUR: 'it returns false'. Refute it at one input. -/
def lawS2436AEncodesWrong : ChangeSpec := { name := "lawS2436AEncodes", fn := fun _ => fun
  | [d1, d2] => { results := [.lit (.bool false)], args := [d1, d2] }
  | _ => none }
def LawS2436AEncodesWrongFalsely : Prop := lawS2436AEncodesRow.holds Yba.pinned (OpenSpec.ofChange lawS2436AEncodesWrong)

end Rows
end Go.Proofs.Ybulkaxks
