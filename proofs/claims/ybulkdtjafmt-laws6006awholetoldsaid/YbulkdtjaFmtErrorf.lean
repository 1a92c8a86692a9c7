import Derived.Test.YbulkdtjaFmtFacts
namespace Go.Proofs.YbulkdtjaFmt
open Go.RowKit Go.Extern.Stop Go.Stop Go.Extern

/-- What a call of fmt.Errorf with one %w leaves: a new *fmt.wrapError whose second cell holds the operand of %w. -/
def Wraps (inner : Value) (w : World) (e : Ending) (w' : World) : Prop :=
  ∃ q : Nat, e = .returned (.iface 49 (.pointer (some ⟨q, 0, none⟩))) ∧ w.heap.size ≤ q ∧ w'.cell? ⟨q, 1, none⟩ = some inner ∧ Below w.heap.size w w'

set_option maxHeartbeats 1600000 in
theorem errorf_plain (F : Interp) (at_ : Int) (b : Nat) (a : Addr) (s : ByteArray) (w : World) (hF : F.answers w.tape) (h0 : w.cell? ⟨b, 0, none⟩ = some (.iface 2 (.int .i64 at_))) (h1 : w.cell? ⟨b, 1, none⟩ = some (.iface 59 (.pointer (some a)))) (hs : w.cell? a = some (.string s)) :
    Calls Ybaf.prog 8 #[.string ⟨#[114, 101, 97, 100, 32, 116, 104, 101, 32, 99, 111, 112, 121, 32, 97, 116, 32, 111, 102, 102, 115, 101, 116, 32, 37, 100, 58, 32, 37, 119]⟩, .slice (some ⟨b, 0, none⟩) 2 2] w (Wraps (.iface 59 (.pointer (some a))) w) := by
  have hF' := answers_open hF
  have hop := Ybaf.opPlain59_119w "fmt.errorf" a s w hs
  go_enter Ybaf.func8, Ybaf.ntmps8
  go_wp2
  apply rows_value Ybaf.nextTurns
  case hr =>
    go_simp
    exact ⟨rfl, rfl⟩
  case h =>
    go_wp2
    go_ret
    exact ⟨w.heap.size, rfl, Nat.le_refl _, by simp, ((Below.refl _ _).alloc (Nat.le_refl _) _).drew⟩

set_option maxHeartbeats 1600000 in
theorem errorf_nil (F : Interp) (at_ : Int) (b : Nat) (w : World) (hF : F.answers w.tape) (h0 : w.cell? ⟨b, 0, none⟩ = some (.iface 2 (.int .i64 at_))) (h1 : w.cell? ⟨b, 1, none⟩ = some .nilIface) :
    Calls Ybaf.prog 8 #[.string ⟨#[114, 101, 97, 100, 32, 116, 104, 101, 32, 99, 111, 112, 121, 32, 97, 116, 32, 111, 102, 102, 115, 101, 116, 32, 37, 100, 58, 32, 37, 119]⟩, .slice (some ⟨b, 0, none⟩) 2 2] w (Wraps .nilIface w) := by
  have hF' := answers_open hF
  go_enter Ybaf.func8, Ybaf.ntmps8
  go_wp2
  apply rows_value Ybaf.nextTurns
  case hr =>
    go_simp
    exact ⟨rfl, rfl⟩
  case h =>
    go_wp2
    go_ret
    exact ⟨w.heap.size, rfl, Nat.le_refl _, by simp, ((Below.refl _ _).alloc (Nat.le_refl _) _).drew⟩

/-- (zzs6006aerr).Error. -/
theorem zerror (code : Int) (b : Bool) (w : World) :
    Calls Ybaf.prog 29 #[.agg #[.int .i64 code, .bool b]] w fun e w' => e = .returned (.string ⟨#[122, 122, 32, 115, 116, 97, 110, 100, 45, 105, 110, 32, 101, 114, 114, 111, 114]⟩) ∧ w' = w.alloc (.cells #[.int .i64 code, .bool b] 26) := by
  go_enter Ybaf.func29, Ybaf.ntmps29
  go_wp2
  go_ret
  exact ⟨rfl, rfl⟩

set_option maxHeartbeats 1600000 in
theorem errorf_zzs (F : Interp) (at_ code : Int) (z : Bool) (b : Nat) (w : World) (hF : F.answers w.tape) (hb : b < w.heap.size) (h0 : w.cell? ⟨b, 0, none⟩ = some (.iface 2 (.int .i64 at_))) (h1 : w.cell? ⟨b, 1, none⟩ = some (.iface 26 (.agg #[.int .i64 code, .bool z]))) :
    Calls Ybaf.prog 8 #[.string ⟨#[114, 101, 97, 100, 32, 116, 104, 101, 32, 99, 111, 112, 121, 32, 97, 116, 32, 111, 102, 102, 115, 101, 116, 32, 37, 100, 58, 32, 37, 119]⟩, .slice (some ⟨b, 0, none⟩) 2 2] w (Wraps (.iface 26 (.agg #[.int .i64 code, .bool z])) w) := by
  have hF' := answers_open hF
  go_enter Ybaf.func8, Ybaf.ntmps8
  go_wp2
  apply rows_call Ybaf.nextTurns
  case hr =>
    go_simp
    exact ⟨⟨rfl, rfl, rfl⟩, rfl⟩
  case hi => exact Ybaf.invokeError26 _ _
  case hc =>
    refine (zerror code z _).mono fun e w₃ ⟨he, hx⟩ => ?_
    subst he; subst hx
    apply rows_value Ybaf.nextReturned
    case hr =>
      go_simp
      exact ⟨rfl, rfl⟩
    case h =>
      go_wp2
      go_ret
      exact ⟨w.heap.size + 1, rfl, by omega, by simp, (((Below.refl _ _).alloc (Nat.le_refl _) _).alloc (by simp) _).drew⟩

set_option maxHeartbeats 1600000 in
theorem errorf_dam (F : Interp) (at_ : Int) (t : ByteArray) (b : Nat) (a : Addr) (s : ByteArray) (w : World) (hF : F.answers w.tape) (h0 : w.cell? ⟨b, 0, none⟩ = some (.iface 2 (.int .i64 at_))) (h1 : w.cell? ⟨b, 1, none⟩ = some (.iface 9 (.string t))) (h2 : w.cell? ⟨b, 2, none⟩ = some (.iface 59 (.pointer (some a)))) (hs : w.cell? a = some (.string s)) :
    Calls Ybaf.prog 8 #[.string ⟨#[111, 102, 102, 115, 101, 116, 32, 37, 100, 58, 32, 37, 115, 58, 32, 37, 119]⟩, .slice (some ⟨b, 0, none⟩) 3 3] w (Wraps (.iface 59 (.pointer (some a))) w) := by
  have hF' := answers_open hF
  have hop := Ybaf.opPlain59_119w "fmt.errorf" a s w hs
  go_enter Ybaf.func8, Ybaf.ntmps8
  go_wp2
  apply rows_value Ybaf.nextTurns
  case hr =>
    go_simp
    exact ⟨rfl, rfl⟩
  case h =>
    go_wp2
    go_ret
    exact ⟨w.heap.size, rfl, Nat.le_refl _, by simp, ((Below.refl _ _).alloc (Nat.le_refl _) _).drew⟩
end Go.Proofs.YbulkdtjaFmt
