/-
  No cell of these rows narrows 'for every input' (looked for: loops, veiled, ifaces, maps, wideKeys, modest, calm, conditions, laid).
  DERIVED. THE GIVEN ROWS OF THIS SEAT. 3 by the template 'for every input the law returns true; each argument reads behind the call as it read before'; 0 by the template 'total and deterministic' (their statements: YbulkdtlsTotals.lean).
  GIVEN WITH THE SEED: the statements are not yours to turn. If you find one false, say at which input.
  Laid BY PROGRAM, IN A SANDBOX (cutbox-rows.mjs): the forced cells as the released guide's own fill.sh prints them over the translation 8822f910dddbd05d… (all of the seat's roots in one cut). By AI agents, Wed Nov 11 2026. No macro, syntax, notation, axiom, sorry.
-/
import Derived.Test.YbulkdtlsChecked
import GoSem.Claim
import GoSem.ClaimJoined
import GoSem.ClaimMapViews
import Derived.JoinedTies
import Derived.KernelRfl
namespace Go.Proofs.Ybulkdtls
/- THE CELL 'sum', in the pinned program and in every row, IS THE sha256 OF THE DUMP (.gsa) THAT YbulkdtlsProg.lean LOADS. Nothing in Lean hashes anything: it is a label: what it is worth is what the hold of that sum in a sandbox is worth. -/
noncomputable def Yba.pinned : Pinned := { name := "ybulkdtls", sum := "8822f910dddbd05d973da6ea7c152a4702e526d8e748d45f84389ae733bb7adb", checked := Yba.checked }
namespace Rows
def none {H : Type} : Left H := { results := [], args := [] }

/-- 'riddlecomb.LawS6011AWhole': WHATEVER THE INPUT: true; the input reads as it did. -/
def lawS6011AWholeSpec : ChangeSpec := { name := "lawS6011AWhole", fn := fun _ => fun
  | [d1, d2] => { results := [.lit (.bool true)], args := [d1, d2] }
  | _ => none }
def lawS6011AWholeRow : OpenClaim := { program := "ybulkdtls", sum := "8822f910dddbd05d973da6ea7c152a4702e526d8e748d45f84389ae733bb7adb", func := "example.com/riddlecomb/riddlecomb.LawS6011AWhole", spec := "lawS6011AWhole", unfollowed := true, recurses := true, apart := false }
def LawS6011AWholeSaid : Prop := lawS6011AWholeRow.holds Yba.pinned (OpenSpec.ofChange lawS6011AWholeSpec)

/-- ITS FALSE NEIGHBOUR: 'it returns false'. Refute it at one input. -/
def lawS6011AWholeWrong : ChangeSpec := { name := "lawS6011AWhole", fn := fun _ => fun
  | [d1, d2] => { results := [.lit (.bool false)], args := [d1, d2] }
  | _ => none }
def LawS6011AWholeWrongFalsely : Prop := lawS6011AWholeRow.holds Yba.pinned (OpenSpec.ofChange lawS6011AWholeWrong)

/-- 'riddlecomb.LawS6011BWhole': WHATEVER THE INPUT: true; the input reads as it did. -/
def lawS6011BWholeSpec : ChangeSpec := { name := "lawS6011BWhole", fn := fun _ => fun
  | [d1, d2, d3] => { results := [.lit (.bool true)], args := [d1, d2, d3] }
  | _ => none }
def lawS6011BWholeRow : OpenClaim := { program := "ybulkdtls", sum := "8822f910dddbd05d973da6ea7c152a4702e526d8e748d45f84389ae733bb7adb", func := "example.com/riddlecomb/riddlecomb.LawS6011BWhole", spec := "lawS6011BWhole", unfollowed := true, recurses := true, apart := false }
def LawS6011BWholeSaid : Prop := lawS6011BWholeRow.holds Yba.pinned (OpenSpec.ofChange lawS6011BWholeSpec)

/-- ITS FALSE NEIGHBOUR: 'it returns false'. Refute it at one input. -/
def lawS6011BWholeWrong : ChangeSpec := { name := "lawS6011BWhole", fn := fun _ => fun
  | [d1, d2, d3] => { results := [.lit (.bool false)], args := [d1, d2, d3] }
  | _ => none }
def LawS6011BWholeWrongFalsely : Prop := lawS6011BWholeRow.holds Yba.pinned (OpenSpec.ofChange lawS6011BWholeWrong)

/-- 'riddlecomb.LawS6011CWhole': WHATEVER THE INPUT: true; the input reads as it did. -/
def lawS6011CWholeSpec : ChangeSpec := { name := "lawS6011CWhole", fn := fun _ => fun
  | [d1, d2, d3] => { results := [.lit (.bool true)], args := [d1, d2, d3] }
  | _ => none }
def lawS6011CWholeRow : OpenClaim := { program := "ybulkdtls", sum := "8822f910dddbd05d973da6ea7c152a4702e526d8e748d45f84389ae733bb7adb", func := "example.com/riddlecomb/riddlecomb.LawS6011CWhole", spec := "lawS6011CWhole", unfollowed := true, recurses := true, apart := false }
def LawS6011CWholeSaid : Prop := lawS6011CWholeRow.holds Yba.pinned (OpenSpec.ofChange lawS6011CWholeSpec)

/-- ITS FALSE NEIGHBOUR: 'it returns false'. Refute it at one input. -/
def lawS6011CWholeWrong : ChangeSpec := { name := "lawS6011CWhole", fn := fun _ => fun
  | [d1, d2, d3] => { results := [.lit (.bool false)], args := [d1, d2, d3] }
  | _ => none }
def LawS6011CWholeWrongFalsely : Prop := lawS6011CWholeRow.holds Yba.pinned (OpenSpec.ofChange lawS6011CWholeWrong)

end Rows
end Go.Proofs.Ybulkdtls
