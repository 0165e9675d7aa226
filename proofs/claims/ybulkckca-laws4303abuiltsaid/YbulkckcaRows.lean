/-
  No cell of these rows narrows 'for every input' (looked for: loops, veiled, ifaces, maps, wideKeys, modest, calm, conditions, laid).
  DERIVED. THE GIVEN ROWS OF THIS SEAT. 2 by the template 'for every input the law returns true; each argument reads behind the call as it read before'; 0 by the template 'total and deterministic' (their statements: YbulkckcaTotals.lean).
  GIVEN WITH THE SEED: the statements are not yours to turn. If you find one false, say at which input.
  Laid BY PROGRAM, IN A SANDBOX (cutbox-rows.mjs): the forced cells as the released guide's own fill.sh prints them over the translation 8cdb8e226ac09ebd… (all of the seat's roots in one cut). By AI agents, Wed Nov 11 2026. No macro, syntax, notation, axiom, sorry.
-/
import Derived.Test.YbulkckcaChecked
import GoSem.Claim
import GoSem.ClaimJoined
import GoSem.ClaimMapViews
import Derived.JoinedTies
import Derived.KernelRfl
namespace Go.Proofs.Ybulkckca
/- THE CELL 'sum', in the pinned program and in every row, IS THE sha256 OF THE DUMP (.gsa) THAT YbulkckcaProg.lean LOADS. Nothing in Lean hashes anything: it is a label: what it is worth is what the hold of that sum in a sandbox is worth. -/
noncomputable def Yba.pinned : Pinned := { name := "ybulkckca", sum := "8cdb8e226ac09ebde9639c0c919197dbabf044e8c2cbe1935be4be8ecb9ebf59", checked := Yba.checked }
namespace Rows
def none {H : Type} : Left H := { results := [], args := [] }

/-- 'stowhold.LawS4303AModel': WHATEVER THE INPUT: true; the input reads as it did. -/
def lawS4303AModelSpec : ChangeSpec := { name := "lawS4303AModel", fn := fun _ => fun
  | [d] => { results := [.lit (.bool true)], args := [d] }
  | _ => none }
def lawS4303AModelRow : OpenClaim := { program := "ybulkckca", sum := "8cdb8e226ac09ebde9639c0c919197dbabf044e8c2cbe1935be4be8ecb9ebf59", func := "example.com/stowhold/stowhold.LawS4303AModel", spec := "lawS4303AModel", apart := false }
def LawS4303AModelSaid : Prop := lawS4303AModelRow.holds Yba.pinned (OpenSpec.ofChange lawS4303AModelSpec)

/-- ITS FALSE NEIGHBOUR: 'it returns false'. Refute it at one input. -/
def lawS4303AModelWrong : ChangeSpec := { name := "lawS4303AModel", fn := fun _ => fun
  | [d] => { results := [.lit (.bool false)], args := [d] }
  | _ => none }
def LawS4303AModelWrongFalsely : Prop := lawS4303AModelRow.holds Yba.pinned (OpenSpec.ofChange lawS4303AModelWrong)

/-- 'stowhold.LawS4303ABuilt': WHATEVER THE INPUT: true; the input reads as it did. -/
def lawS4303ABuiltSpec : ChangeSpec := { name := "lawS4303ABuilt", fn := fun _ => fun
  | [d1, d2, d3] => { results := [.lit (.bool true)], args := [d1, d2, d3] }
  | _ => none }
def lawS4303ABuiltRow : OpenClaim := { program := "ybulkckca", sum := "8cdb8e226ac09ebde9639c0c919197dbabf044e8c2cbe1935be4be8ecb9ebf59", func := "example.com/stowhold/stowhold.LawS4303ABuilt", spec := "lawS4303ABuilt", apart := false }
def LawS4303ABuiltSaid : Prop := lawS4303ABuiltRow.holds Yba.pinned (OpenSpec.ofChange lawS4303ABuiltSpec)

/-- ITS FALSE NEIGHBOUR: 'it returns false'. Refute it at one input. -/
def lawS4303ABuiltWrong : ChangeSpec := { name := "lawS4303ABuilt", fn := fun _ => fun
  | [d1, d2, d3] => { results := [.lit (.bool false)], args := [d1, d2, d3] }
  | _ => none }
def LawS4303ABuiltWrongFalsely : Prop := lawS4303ABuiltRow.holds Yba.pinned (OpenSpec.ofChange lawS4303ABuiltWrong)

end Rows
end Go.Proofs.Ybulkckca
