/-
  No cell of these rows narrows 'for every input' (looked for: loops, veiled, ifaces, maps, wideKeys, modest, calm, conditions, laid).
  DERIVED. THE GIVEN ROWS OF THIS SEAT. 1 by the template 'for every input the law returns true; each argument reads behind the call as it read before'; 0 by the template 'total and deterministic' (their statements: YbulkdtjoTotals.lean).
  GIVEN WITH THE SEED: the statements are not yours to turn. If you find one false, say at which input.
  Laid BY PROGRAM, IN A SANDBOX (cutbox-rows.mjs): the forced cells as the released guide's own fill.sh prints them over the translation 507f2f428c93db5a… (all of the seat's roots in one cut). By AI agents, Wed Nov 11 2026. No macro, syntax, notation, axiom, sorry.
-/
import Derived.Test.YbulkdtjoChecked
import GoSem.Claim
import GoSem.ClaimJoined
import GoSem.ClaimMapViews
import Derived.JoinedTies
import Derived.KernelRfl
namespace Go.Proofs.Ybulkdtjo
/- THE CELL 'sum', in the pinned program and in every row, IS THE sha256 OF THE DUMP (.gsa) THAT YbulkdtjoProg.lean LOADS. Nothing in Lean hashes anything: it is a label: what it is worth is what the hold of that sum in a sandbox is worth. -/
noncomputable def Yba.pinned : Pinned := { name := "ybulkdtjo", sum := "507f2f428c93db5a82cbceeb6f4d623f6ecc541b6679156bb8184b1b76e0a6a4", checked := Yba.checked }
namespace Rows
def none {H : Type} : Left H := { results := [], args := [] }

/-- 'schema.LawS6007BWhole': WHATEVER THE INPUT: true; the input reads as it did. -/
def lawS6007BWholeSpec : ChangeSpec := { name := "lawS6007BWhole", fn := fun _ => fun
  | [d1, d2, d3, d4] => { results := [.lit (.bool true)], args := [d1, d2, d3, d4] }
  | _ => none }
def lawS6007BWholeRow : OpenClaim := { program := "ybulkdtjo", sum := "507f2f428c93db5a82cbceeb6f4d623f6ecc541b6679156bb8184b1b76e0a6a4", func := "example.com/tagstream/tagstream/internal/schema.LawS6007BWhole", spec := "lawS6007BWhole", apart := false }
def LawS6007BWholeSaid : Prop := lawS6007BWholeRow.holds Yba.pinned (OpenSpec.ofChange lawS6007BWholeSpec)

/-- ITS FALSE NEIGHBOUR: 'it returns false'. Refute it at one input. -/
def lawS6007BWholeWrong : ChangeSpec := { name := "lawS6007BWhole", fn := fun _ => fun
  | [d1, d2, d3, d4] => { results := [.lit (.bool false)], args := [d1, d2, d3, d4] }
  | _ => none }
def LawS6007BWholeWrongFalsely : Prop := lawS6007BWholeRow.holds Yba.pinned (OpenSpec.ofChange lawS6007BWholeWrong)

end Rows
end Go.Proofs.Ybulkdtjo
