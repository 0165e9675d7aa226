/-
  No cell of these rows narrows 'for every input' (looked for: loops, veiled, ifaces, maps, wideKeys, modest, calm, conditions, laid).
  DERIVED. THE GIVEN ROWS OF THIS SEAT. 2 by the template 'for every input the law returns true; each argument reads behind the call as it read before'; 0 by the template 'total and deterministic' (their statements: YbulkcjzwTotals.lean).
  GIVEN WITH THE SEED: the statements are not yours to turn. If you find one false, say at which input.
  Laid BY PROGRAM, IN A SANDBOX (cutbox-rows.mjs): the forced cells as the released guide's own fill.sh prints them over the translation a419a91138aceeb3… (all of the seat's roots in one cut). By AI agents, Wed Nov 11 2026. No macro, syntax, notation, axiom, sorry.
-/
import Derived.Test.YbulkcjzwChecked
import GoSem.Claim
import GoSem.ClaimJoined
import GoSem.ClaimMapViews
import Derived.JoinedTies
import Derived.KernelRfl
namespace Go.Proofs.Ybulkcjzw
/- THE CELL 'sum', in the pinned program and in every row, IS THE sha256 OF THE DUMP (.gsa) THAT YbulkcjzwProg.lean LOADS. Nothing in Lean hashes anything: it is a label: what it is worth is what the hold of that sum in a sandbox is worth. -/
noncomputable def Yba.pinned : Pinned := { name := "ybulkcjzw", sum := "a419a91138aceeb30d5581bb534c1ee1916a33da8e069ba7270beda0166dcd0d", checked := Yba.checked }
namespace Rows
def none {H : Type} : Left H := { results := [], args := [] }

/-- 'kv.LawS4299AExact': WHATEVER THE INPUT: true; the input reads as it did. -/
def lawS4299AExactSpec : ChangeSpec := { name := "lawS4299AExact", fn := fun _ => fun
  | [d1, d2] => { results := [.lit (.bool true)], args := [d1, d2] }
  | _ => none }
def lawS4299AExactRow : OpenClaim := { program := "ybulkcjzw", sum := "a419a91138aceeb30d5581bb534c1ee1916a33da8e069ba7270beda0166dcd0d", func := "example.com/presage/presage/kv.LawS4299AExact", spec := "lawS4299AExact", apart := false }
def LawS4299AExactSaid : Prop := lawS4299AExactRow.holds Yba.pinned (OpenSpec.ofChange lawS4299AExactSpec)

/-- ITS FALSE NEIGHBOUR: 'it returns false'. Refute it at one input. -/
def lawS4299AExactWrong : ChangeSpec := { name := "lawS4299AExact", fn := fun _ => fun
  | [d1, d2] => { results := [.lit (.bool false)], args := [d1, d2] }
  | _ => none }
def LawS4299AExactWrongFalsely : Prop := lawS4299AExactRow.holds Yba.pinned (OpenSpec.ofChange lawS4299AExactWrong)

/-- 'kv.LawS4299AOrder': WHATEVER THE INPUT: true; the input reads as it did. -/
def lawS4299AOrderSpec : ChangeSpec := { name := "lawS4299AOrder", fn := fun _ => fun
  | [d1, d2] => { results := [.lit (.bool true)], args := [d1, d2] }
  | _ => none }
def lawS4299AOrderRow : OpenClaim := { program := "ybulkcjzw", sum := "a419a91138aceeb30d5581bb534c1ee1916a33da8e069ba7270beda0166dcd0d", func := "example.com/presage/presage/kv.LawS4299AOrder", spec := "lawS4299AOrder", inPlace := ["internal/bytealg.Compare", "internal/bytealg.abigen_runtime_cmpstring"], apart := false }
def LawS4299AOrderSaid : Prop := lawS4299AOrderRow.holds Yba.pinned (OpenSpec.ofChange lawS4299AOrderSpec)

/-- ITS FALSE NEIGHBOUR: 'it returns false'. Refute it at one input. -/
def lawS4299AOrderWrong : ChangeSpec := { name := "lawS4299AOrder", fn := fun _ => fun
  | [d1, d2] => { results := [.lit (.bool false)], args := [d1, d2] }
  | _ => none }
def LawS4299AOrderWrongFalsely : Prop := lawS4299AOrderRow.holds Yba.pinned (OpenSpec.ofChange lawS4299AOrderWrong)

end Rows
end Go.Proofs.Ybulkcjzw
