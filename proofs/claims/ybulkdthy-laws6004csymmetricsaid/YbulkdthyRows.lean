/-
  No cell of these rows narrows 'for every input' (looked for: loops, veiled, ifaces, maps, wideKeys, modest, calm, conditions, laid).
  DERIVED. THE GIVEN ROWS OF THIS SEAT. 2 by the template 'for every input the law returns true; each argument reads behind the call as it read before'; 0 by the template 'total and deterministic' (their statements: YbulkdthyTotals.lean).
  GIVEN WITH THE SEED: the statements are not yours to turn. If you find one false, say at which input.
  Laid BY PROGRAM, IN A SANDBOX (cutbox-rows.mjs): the forced cells as the released guide's own fill.sh prints them over the translation b6163765d1510f37… (all of the seat's roots in one cut). By AI agents, Wed Nov 11 2026. No macro, syntax, notation, axiom, sorry.
-/
import Derived.Test.YbulkdthyChecked
import GoSem.Claim
import GoSem.ClaimJoined
import GoSem.ClaimMapViews
import Derived.JoinedTies
import Derived.KernelRfl
namespace Go.Proofs.Ybulkdthy
/- THE CELL 'sum', in the pinned program and in every row, IS THE sha256 OF THE DUMP (.gsa) THAT YbulkdthyProg.lean LOADS. Nothing in Lean hashes anything: it is a label: what it is worth is what the hold of that sum in a sandbox is worth. -/
noncomputable def Yba.pinned : Pinned := { name := "ybulkdthy", sum := "b6163765d1510f37b0f454a9e040cf0314f162307afb63253bfccb6fd08b0498", checked := Yba.checked }
namespace Rows
def none {H : Type} : Left H := { results := [], args := [] }

/-- 'ruleset.LawS6004CWhole': WHATEVER THE INPUT: true; the input reads as it did. -/
def lawS6004CWholeSpec : ChangeSpec := { name := "lawS6004CWhole", fn := fun _ => fun
  | [d1, d2] => { results := [.lit (.bool true)], args := [d1, d2] }
  | _ => none }
def lawS6004CWholeRow : OpenClaim := { program := "ybulkdthy", sum := "b6163765d1510f37b0f454a9e040cf0314f162307afb63253bfccb6fd08b0498", func := "example.com/avocet/avocet/pkg/ruleset.LawS6004CWhole", spec := "lawS6004CWhole", apart := false }
def LawS6004CWholeSaid : Prop := lawS6004CWholeRow.holds Yba.pinned (OpenSpec.ofChange lawS6004CWholeSpec)

/-- ITS FALSE NEIGHBOUR: 'it returns false'. Refute it at one input. -/
def lawS6004CWholeWrong : ChangeSpec := { name := "lawS6004CWhole", fn := fun _ => fun
  | [d1, d2] => { results := [.lit (.bool false)], args := [d1, d2] }
  | _ => none }
def LawS6004CWholeWrongFalsely : Prop := lawS6004CWholeRow.holds Yba.pinned (OpenSpec.ofChange lawS6004CWholeWrong)

/-- 'ruleset.LawS6004CSymmetric': WHATEVER THE INPUT: true; the input reads as it did. -/
def lawS6004CSymmetricSpec : ChangeSpec := { name := "lawS6004CSymmetric", fn := fun _ => fun
  | [d1, d2] => { results := [.lit (.bool true)], args := [d1, d2] }
  | _ => none }
def lawS6004CSymmetricRow : OpenClaim := { program := "ybulkdthy", sum := "b6163765d1510f37b0f454a9e040cf0314f162307afb63253bfccb6fd08b0498", func := "example.com/avocet/avocet/pkg/ruleset.LawS6004CSymmetric", spec := "lawS6004CSymmetric", apart := false }
def LawS6004CSymmetricSaid : Prop := lawS6004CSymmetricRow.holds Yba.pinned (OpenSpec.ofChange lawS6004CSymmetricSpec)

/-- ITS FALSE NEIGHBOUR: 'it returns false'. Refute it at one input. -/
def lawS6004CSymmetricWrong : ChangeSpec := { name := "lawS6004CSymmetric", fn := fun _ => fun
  | [d1, d2] => { results := [.lit (.bool false)], args := [d1, d2] }
  | _ => none }
def LawS6004CSymmetricWrongFalsely : Prop := lawS6004CSymmetricRow.holds Yba.pinned (OpenSpec.ofChange lawS6004CSymmetricWrong)

end Rows
end Go.Proofs.Ybulkdthy
