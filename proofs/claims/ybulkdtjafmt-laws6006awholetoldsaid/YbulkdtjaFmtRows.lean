/-
  NARROWER THAN 'FOR EVERY INPUT', by the rows' own cells (each row's printed sentence says how): LawS6006AWhole: ifaces, laid.
  DERIVED. THE GIVEN ROWS OF THIS SEAT. 1 by the template 'for every input the law returns true; each argument reads behind the call as it read before'; 0 by the template 'total and deterministic' (their statements: YbulkdtjaFmtTotals.lean).
  GIVEN WITH THE SEED: the statements are not yours to turn. If you find one false, say at which input.
  Laid BY PROGRAM, IN A SANDBOX (cutbox-rows.mjs): the forced cells as the released guide's own fill.sh prints them over the translation 076bcc30e3568cef… (all of the seat's roots in one cut). By AI agents, Wed Nov 11 2026. No macro, syntax, notation, axiom, sorry.
-/
import Derived.Test.YbulkdtjaFmtChecked
import GoSem.Claim
import GoSem.ClaimJoined
import GoSem.ClaimMapViews
import Derived.JoinedTies
import Derived.KernelRfl
namespace Go.Proofs.YbulkdtjaFmt
/- THE CELL 'sum', in the pinned program and in every row, IS THE sha256 OF THE DUMP (.gsa) THAT YbulkdtjaFmtProg.lean LOADS. Nothing in Lean hashes anything: it is a label: what it is worth is what the hold of that sum in a sandbox is worth. -/
noncomputable def Ybaf.pinned : Pinned := { name := "ybulkdtjafmt", sum := "076bcc30e3568cef9a170a099650c3aa6f034e9f52407158367d02fc6feedc9d", checked := Ybaf.checked }
namespace Rows
def none {H : Type} : Left H := { results := [], args := [] }

/- WHAT THE LISTED PACKAGE-LEVEL VARIABLES READ AS WHEN THE CALL BEGINS. Each datum BY PROGRAM (the guide's laid-datum.mjs) off the statement by which the dump's own 'gosem.cut.vars' lays the variable. In a bare row this is a premise. The card (YbulkdtjaFmtCards.lean) ties it to the program's text. -/
def laid_io_EOF {H : Type} : DataW H := .iface "*errors.errorString" (.ptr (.agg [.lit (.string [69, 79, 70])]))
def laid_io_ErrUnexpectedEOF {H : Type} : DataW H := .iface "*errors.errorString" (.ptr (.agg [.lit (.string [117, 110, 101, 120, 112, 101, 99, 116, 101, 100, 32, 69, 79, 70])]))
def laid_example_com_holdfast_holdfast_internal_backup_ErrDamaged {H : Type} : DataW H := .iface "*errors.errorString" (.ptr (.agg [.lit (.string [104, 111, 108, 100, 102, 97, 115, 116, 58, 32, 100, 97, 109, 97, 103, 101, 100, 32, 98, 97, 99, 107, 117, 112])]))

/-- 'backup.LawS6006AWhole': WHATEVER THE INPUT: true; the input reads as it did. -/
def lawS6006AWholeSpec : ChangeSpec := { name := "lawS6006AWhole", vars := ["example.com/holdfast/holdfast/internal/backup.ErrDamaged"], fn := fun _ => fun
  | [d1, d2, d3, d4, d5, g1] => { results := [.lit (.bool true)], args := [d1, d2, d3, d4, d5], vars := [g1] }
  | _ => none }
def lawS6006AWholeRow : OpenClaim := { program := "ybulkdtjafmt", sum := "076bcc30e3568cef9a170a099650c3aa6f034e9f52407158367d02fc6feedc9d", func := "example.com/holdfast/holdfast/internal/backup.LawS6006AWhole", spec := "lawS6006AWhole", stops := ["fmt.Sprintf, its operands' methods called", "fmt.errorf, its operands' methods called"], inPlace := ["fmt.Sprintf", "fmt.errorf", "internal/reflectlite.TypeOf"], unfollowed := true, recurses := true, named := ["io.EOF", "io.ErrUnexpectedEOF", "example.com/holdfast/holdfast/internal/backup.ErrDamaged"], ifaces := true, apart := false, laid := [("io.EOF", laid_io_EOF), ("io.ErrUnexpectedEOF", laid_io_ErrUnexpectedEOF), ("example.com/holdfast/holdfast/internal/backup.ErrDamaged", laid_example_com_holdfast_holdfast_internal_backup_ErrDamaged)] }
/-- NO THEOREM (fmt's text is open here; it may be false): for the released tool's asking of the row's closed facts alone. THE STATEMENT IS 'LawS6006AWholeToldSaid' (YbulkdtjaFmtCards.lean). -/
def LawS6006AWholeFormAsk : Prop := lawS6006AWholeRow.holds Ybaf.pinned (OpenSpec.ofChange lawS6006AWholeSpec)

/-- ITS FALSE NEIGHBOUR: 'it returns false'. Refute it at one input. -/
def lawS6006AWholeWrong : ChangeSpec := { name := "lawS6006AWhole", vars := ["example.com/holdfast/holdfast/internal/backup.ErrDamaged"], fn := fun _ => fun
  | [d1, d2, d3, d4, d5, g1] => { results := [.lit (.bool false)], args := [d1, d2, d3, d4, d5], vars := [g1] }
  | _ => none }
def LawS6006AWholeWrongFormAsk : Prop := lawS6006AWholeRow.holds Ybaf.pinned (OpenSpec.ofChange lawS6006AWholeWrong)

end Rows
end Go.Proofs.YbulkdtjaFmt
