/-
  No cell of these rows narrows 'for every input' (looked for: loops, veiled, ifaces, maps, wideKeys, modest, calm, conditions, laid).
  DERIVED. THE GIVEN ROWS OF THIS SEAT. 1 by the template 'for every input the law returns true; each argument reads behind the call as it read before'; 0 by the template 'total and deterministic' (their statements: YbulkckayTotals.lean).
  GIVEN WITH THE SEED: the statements are not yours to turn. If you find one false, say at which input.
  Laid BY PROGRAM, IN A SANDBOX (cutbox-rows.mjs): the forced cells as the released guide's own fill.sh prints them over the translation 1df654bf447bcfd9… (all of the seat's roots in one cut). By AI agents, Wed Nov 11 2026. No macro, syntax, notation, axiom, sorry.
-/
import Derived.Test.YbulkckayChecked
import GoSem.Claim
import GoSem.ClaimJoined
import GoSem.ClaimMapViews
import Derived.JoinedTies
import Derived.KernelRfl
namespace Go.Proofs.Ybulkckay
/- THE CELL 'sum', in the pinned program and in every row, IS THE sha256 OF THE DUMP (.gsa) THAT YbulkckayProg.lean LOADS. Nothing in Lean hashes anything: it is a label: what it is worth is what the hold of that sum in a sandbox is worth. -/
noncomputable def Yba.pinned : Pinned := { name := "ybulkckay", sum := "1df654bf447bcfd9a96292b7f7ba43e0a16b4052911a8dab58bd994009ba05a5", checked := Yba.checked }
namespace Rows
def none {H : Type} : Left H := { results := [], args := [] }

/-- 'tidebook.LawS4301BFinds': WHATEVER THE INPUT: true; the input reads as it did. -/
def lawS4301BFindsSpec : ChangeSpec := { name := "lawS4301BFinds", fn := fun _ => fun
  | [d1, d2, d3] => { results := [.lit (.bool true)], args := [d1, d2, d3] }
  | _ => none }
def lawS4301BFindsRow : OpenClaim := { program := "ybulkckay", sum := "1df654bf447bcfd9a96292b7f7ba43e0a16b4052911a8dab58bd994009ba05a5", func := "example.com/tidebook/tidebook.LawS4301BFinds", spec := "lawS4301BFinds", apart := false }
def LawS4301BFindsSaid : Prop := lawS4301BFindsRow.holds Yba.pinned (OpenSpec.ofChange lawS4301BFindsSpec)

/-- ITS FALSE NEIGHBOUR: 'it returns false'. Refute it at one input. -/
def lawS4301BFindsWrong : ChangeSpec := { name := "lawS4301BFinds", fn := fun _ => fun
  | [d1, d2, d3] => { results := [.lit (.bool false)], args := [d1, d2, d3] }
  | _ => none }
def LawS4301BFindsWrongFalsely : Prop := lawS4301BFindsRow.holds Yba.pinned (OpenSpec.ofChange lawS4301BFindsWrong)

end Rows
end Go.Proofs.Ybulkckay
