/-
  No cell of these rows narrows 'for every input' (looked for: loops, veiled, ifaces, maps, wideKeys, modest, calm, conditions, laid).
  DERIVED. THE GIVEN ROWS OF THIS SEAT. 2 by the template 'for every input the law returns true; each argument reads behind the call as it read before'; 0 by the template 'total and deterministic' (their statements: YbulkckdqTotals.lean).
  GIVEN WITH THE SEED: the statements are not yours to turn. If you find one false, say at which input.
  Laid BY PROGRAM, IN A SANDBOX (cutbox-rows.mjs): the forced cells as the released guide's own fill.sh prints them over the translation 2be17449f5c09421… (all of the seat's roots in one cut). By AI agents, Wed Nov 11 2026. No macro, syntax, notation, axiom, sorry.
-/
import Derived.Test.YbulkckdqChecked
import GoSem.Claim
import GoSem.ClaimJoined
import GoSem.ClaimMapViews
import Derived.JoinedTies
import Derived.KernelRfl
namespace Go.Proofs.Ybulkckdq
/- THE CELL 'sum', in the pinned program and in every row, IS THE sha256 OF THE DUMP (.gsa) THAT YbulkckdqProg.lean LOADS. Nothing in Lean hashes anything: it is a label: what it is worth is what the hold of that sum in a sandbox is worth. -/
noncomputable def Yba.pinned : Pinned := { name := "ybulkckdq", sum := "2be17449f5c094219cbdd0dce69cd2113fe74faa4db1eb0551d72eff774e811b", checked := Yba.checked }
namespace Rows
def none {H : Type} : Left H := { results := [], args := [] }

/-- 'shortfall.LawS4306CWords': WHATEVER THE INPUT: true; the input reads as it did. -/
def lawS4306CWordsSpec : ChangeSpec := { name := "lawS4306CWords", fn := fun _ => fun
  | [d] => { results := [.lit (.bool true)], args := [d] }
  | _ => none }
def lawS4306CWordsRow : OpenClaim := { program := "ybulkckdq", sum := "2be17449f5c094219cbdd0dce69cd2113fe74faa4db1eb0551d72eff774e811b", func := "example.com/shortfall/shortfall.LawS4306CWords", spec := "lawS4306CWords", inPlace := ["math/big.lshVU", "math/big.addVV", "math/bits.Add64", "math/big.subVV", "math/bits.Sub64"], recurses := true, apart := false }
def LawS4306CWordsSaid : Prop := lawS4306CWordsRow.holds Yba.pinned (OpenSpec.ofChange lawS4306CWordsSpec)

/-- ITS FALSE NEIGHBOUR: 'it returns false'. Refute it at one input. -/
def lawS4306CWordsWrong : ChangeSpec := { name := "lawS4306CWords", fn := fun _ => fun
  | [d] => { results := [.lit (.bool false)], args := [d] }
  | _ => none }
def LawS4306CWordsWrongFalsely : Prop := lawS4306CWordsRow.holds Yba.pinned (OpenSpec.ofChange lawS4306CWordsWrong)

/-- 'shortfall.LawS4306COr': WHATEVER THE INPUT: true; the input reads as it did. -/
def lawS4306COrSpec : ChangeSpec := { name := "lawS4306COr", fn := fun _ => fun
  | [d1, d2] => { results := [.lit (.bool true)], args := [d1, d2] }
  | _ => none }
def lawS4306COrRow : OpenClaim := { program := "ybulkckdq", sum := "2be17449f5c094219cbdd0dce69cd2113fe74faa4db1eb0551d72eff774e811b", func := "example.com/shortfall/shortfall.LawS4306COr", spec := "lawS4306COr", inPlace := ["math/big.lshVU", "math/big.addVV", "math/bits.Add64", "math/big.subVV", "math/bits.Sub64"], recurses := true, apart := false }
def LawS4306COrSaid : Prop := lawS4306COrRow.holds Yba.pinned (OpenSpec.ofChange lawS4306COrSpec)

/-- ITS FALSE NEIGHBOUR: 'it returns false'. Refute it at one input. -/
def lawS4306COrWrong : ChangeSpec := { name := "lawS4306COr", fn := fun _ => fun
  | [d1, d2] => { results := [.lit (.bool false)], args := [d1, d2] }
  | _ => none }
def LawS4306COrWrongFalsely : Prop := lawS4306COrRow.holds Yba.pinned (OpenSpec.ofChange lawS4306COrWrong)

end Rows
end Go.Proofs.Ybulkckdq
