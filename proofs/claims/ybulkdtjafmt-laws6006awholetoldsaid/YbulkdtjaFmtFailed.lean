import Derived.Test.YbulkdtjaFmtErrorf
import Derived.LaidEql
import Derived.Stop.Asserts
import Derived.Deep.RegionWith
namespace Go.Proofs.YbulkdtjaFmt
open Go.RowKit Go.Extern.Stop Go.Stop Go.Extern

theorem cell_old {w : World} {a : Addr} {v : Value} {o : Obj} (h : w.cell? a = some v) : (w.alloc o).cell? a = some v :=
  (((Below.refl _ _).alloc (Nat.le_refl _) o).cell (World.block_lt_of_cell? _ _ h)).trans h

theorem rows_cut (F : Interp) {w : World} {R : Value → World → Prop} (hF : F.answers w.tape) (h : ∀ t : ByteArray, R (.string t) w.drew) :
    Rows Ybaf.prog FmtCalls.turnsRow (FmtCalls.save 0 0 (.slice none 0 0) ⟨#[116, 104, 101, 32, 99, 111, 112, 121, 32, 105, 115, 32, 99, 117, 116, 32, 115, 104, 111, 114, 116]⟩ [] []) w R := by
  have hF' := answers_open hF
  apply rows_value Ybaf.nextTurns
  case hr =>
    go_simp
    exact ⟨rfl, rfl⟩
  case h => exact h _

set_option maxHeartbeats 800000 in
theorem damaged_any (F : Interp) (at_ : Int) (a : Addr) (s : ByteArray) (w : World) (hF : F.answers w.tape) (hg : w.cell? ⟨2, 0, none⟩ = some (.iface 59 (.pointer (some a)))) (hs : w.cell? a = some (.string s)) :
    Calls Ybaf.prog 7 #[.int .i64 at_, .string ⟨#[116, 104, 101, 32, 99, 111, 112, 121, 32, 105, 115, 32, 99, 117, 116, 32, 115, 104, 111, 114, 116]⟩, .slice none 0 0] w (Wraps (.iface 59 (.pointer (some a))) w) := by
  have hlt : a.block < w.heap.size := World.block_lt_of_cell? _ _ hs
  have hF2 : F.answers w.drew.drew.tape := hF
  go_enter Ybaf.func7, Ybaf.ntmps7
  go_wp2
  go_region_with (first
    | (go_at_call 8; refine (errorf_dam F at_ t w.heap.size a s _ ?_ ?_ ?_ ?_ ?_).mono ?_; exact hF; simp; simp; simp; exact cell_old hs; rintro e w' ⟨q, rfl, h1, h2, h3⟩)
    | (refine rows_cut F ?_ ?_; exact hF; intro t))
  all_goals (try go_wp2)
  all_goals (go_ret; exact ⟨q, rfl, by simp at h1; omega, h2, (((Below.refl _ _).alloc (Nat.le_refl _) _).drew.drew).trans (h3.mono (by simp))⟩)

/-- The three sentinels as a walk wants them. -/
structure Sent (w : World) (e0 e1 d : Addr) : Prop where
  g0 : w.cell? ⟨0, 0, none⟩ = some (.iface 59 (.pointer (some e0)))
  g1 : w.cell? ⟨1, 0, none⟩ = some (.iface 59 (.pointer (some e1)))
  g2 : w.cell? ⟨2, 0, none⟩ = some (.iface 59 (.pointer (some d)))
  n01 : e0 ≠ e1
  n02 : e0 ≠ d
  n12 : e1 ≠ d
  b0 : ∃ c t, w.heap[e0.block]? = some (.cells c t (0, 0))
  b1 : ∃ c t, w.heap[e1.block]? = some (.cells c t (0, 0))
  b2 : ∃ c t, w.heap[d.block]? = some (.cells c t (0, 0))
  s2 : ∃ s, w.cell? d = some (.string s)

theorem lt_of_block {w : World} {k : Nat} {X : Obj} (h : w.heap[k]? = some X) : k < w.heap.size := by
  rcases Nat.lt_or_ge k w.heap.size with h' | h'
  · exact h'
  · rw [Array.getElem?_eq_none h'] at h; cases h

theorem Sent.below {w w' : World} {e0 e1 d : Addr} (h : Sent w e0 e1 d) (hb : Below w.heap.size w w') : Sent w' e0 e1 d := by
  obtain ⟨g0, g1, g2, n01, n02, n12, ⟨c0, t0, b0⟩, ⟨c1, t1, b1⟩, ⟨c2, t2, b2⟩, s, hs⟩ := h
  exact ⟨(hb.cell (World.block_lt_of_cell? _ _ g0)).trans g0, (hb.cell (World.block_lt_of_cell? _ _ g1)).trans g1, (hb.cell (World.block_lt_of_cell? _ _ g2)).trans g2, n01, n02, n12,
    ⟨c0, t0, (hb.block _ (lt_of_block b0)).trans b0⟩, ⟨c1, t1, (hb.block _ (lt_of_block b1)).trans b1⟩, ⟨c2, t2, (hb.block _ (lt_of_block b2)).trans b2⟩, s, (hb.cell (World.block_lt_of_cell? _ _ hs)).trans hs⟩

theorem Ybaf.isComp' : (Ybaf.prog.info? 59).map (·.comparable) = some true := by kernel_rfl
theorem Ybaf.isSize' : (Ybaf.prog.info? 61).map (·.size) = some 1 := by kernel_rfl

theorem eql_same (a : Addr) (w : World) : (binOp .eql 24 (.iface 59 (.pointer (some a))) (.iface 59 (.pointer (some a)))).run Ybaf.prog w = .ok (.bool true) w := by
  obtain ⟨i, hi, hcmp⟩ := Option.map_eq_some_iff.1 Ybaf.isComp'
  obtain ⟨j, hj, hjs⟩ := Option.map_eq_some_iff.1 Ybaf.isSize'
  exact run_eql_iface_ptr_same (P := Ybaf.prog) w a Ybaf.underlying24 Ybaf.underlying59 hi hcmp hj
theorem eql_other {a b : Addr} {w : World} (hne : a ≠ b) (ha : ∃ c t, w.heap[a.block]? = some (.cells c t (0, 0))) (hb : ∃ c t, w.heap[b.block]? = some (.cells c t (0, 0))) : (binOp .eql 24 (.iface 59 (.pointer (some a))) (.iface 59 (.pointer (some b)))).run Ybaf.prog w = .ok (.bool false) w := by
  obtain ⟨i, hi, hcmp⟩ := Option.map_eq_some_iff.1 Ybaf.isComp'
  obtain ⟨j, hj, hjs⟩ := Option.map_eq_some_iff.1 Ybaf.isSize'
  obtain ⟨ca, ta, ha⟩ := ha
  obtain ⟨cb, tb, hb⟩ := hb
  exact run_eql_iface_ptr_other (P := Ybaf.prog) w Ybaf.underlying24 Ybaf.underlying59 hi hcmp hj (by rw [hjs]; decide) hne ha hb

set_option maxHeartbeats 800000 in
theorem failed_eof0 (F : Interp) (at_ : Int) (fb : Nat) (e0 e1 d : Addr) (w : World) (hF : F.answers w.tape) (S : Sent w e0 e1 d) (hat : w.cell? ⟨fb, 1, none⟩ = some (.int .i64 at_)) :
    Calls Ybaf.prog 4 #[.pointer (some ⟨fb, 0, none⟩), .iface 59 (.pointer (some e0))] w (Wraps (.iface 59 (.pointer (some d))) w) := by
  obtain ⟨g0, g1, g2, n01, n02, n12, b0, b1, b2, s, hs⟩ := S
  have q0 := eql_same e0 w
  clear b0 b1 b2 n01 n02 n12
  go_enter Ybaf.func4, Ybaf.ntmps4
  go_wp2_with fail
  refine (damaged_any F at_ d s _ hF g2 hs).mono ?_
  rintro e w' ⟨q, rfl, h1, h2, h3⟩
  go_wp2
  go_ret
  exact ⟨q, rfl, h1, h2, h3⟩

set_option maxHeartbeats 800000 in
theorem failed_eof1 (F : Interp) (at_ : Int) (fb : Nat) (e0 e1 d : Addr) (w : World) (hF : F.answers w.tape) (S : Sent w e0 e1 d) (hat : w.cell? ⟨fb, 1, none⟩ = some (.int .i64 at_)) :
    Calls Ybaf.prog 4 #[.pointer (some ⟨fb, 0, none⟩), .iface 59 (.pointer (some e1))] w (Wraps (.iface 59 (.pointer (some d))) w) := by
  obtain ⟨g0, g1, g2, n01, n02, n12, b0, b1, b2, s, hs⟩ := S
  have q0 := eql_other (Ne.symm n01) b1 b0
  have q1 := eql_same e1 w
  clear b0 b1 b2 n01 n02 n12
  go_enter Ybaf.func4, Ybaf.ntmps4
  go_wp2_with fail
  refine (damaged_any F at_ d s _ hF g2 hs).mono ?_
  rintro e w' ⟨q, rfl, h1, h2, h3⟩
  go_wp2
  go_ret
  exact ⟨q, rfl, h1, h2, h3⟩

set_option maxHeartbeats 800000 in
theorem failed_nil (F : Interp) (at_ : Int) (fb : Nat) (e0 e1 d : Addr) (w : World) (hF : F.answers w.tape) (S : Sent w e0 e1 d) (hat : w.cell? ⟨fb, 1, none⟩ = some (.int .i64 at_)) :
    Calls Ybaf.prog 4 #[.pointer (some ⟨fb, 0, none⟩), .nilIface] w (Wraps (.nilIface) w) := by
  obtain ⟨g0, g1, g2, n01, n02, n12, b0, b1, b2, s, hs⟩ := S
  have q0 := run_eql_iface_nil_left (P := Ybaf.prog) w 59 (.pointer (some e0)) Ybaf.underlying24
  have q1 := run_eql_iface_nil_left (P := Ybaf.prog) w 59 (.pointer (some e1)) Ybaf.underlying24
  clear b0 b1 b2 n01 n02 n12
  go_enter Ybaf.func4, Ybaf.ntmps4
  go_wp2_with fail
  refine (errorf_nil F at_ w.heap.size (w.alloc (.cells #[.iface 2 (.int .i64 at_), .nilIface] 20)) hF (by simp) (by simp)).mono ?_
  rintro e w' ⟨q, rfl, h1, h2, h3⟩
  go_wp2
  go_ret
  exact ⟨q, rfl, by simp at h1; omega, h2, ((Below.refl _ _).alloc (Nat.le_refl _) _).trans (h3.mono (by simp))⟩

set_option maxHeartbeats 800000 in
theorem failed_dam (F : Interp) (at_ : Int) (fb : Nat) (e0 e1 d : Addr) (w : World) (hF : F.answers w.tape) (S : Sent w e0 e1 d) (hat : w.cell? ⟨fb, 1, none⟩ = some (.int .i64 at_)) :
    Calls Ybaf.prog 4 #[.pointer (some ⟨fb, 0, none⟩), .iface 59 (.pointer (some d))] w (Wraps (.iface 59 (.pointer (some d))) w) := by
  obtain ⟨g0, g1, g2, n01, n02, n12, b0, b1, b2, s, hs⟩ := S
  have q0 := eql_other (Ne.symm n02) b2 b0
  have q1 := eql_other (Ne.symm n12) b2 b1
  clear b0 b1 b2 n01 n02 n12
  go_enter Ybaf.func4, Ybaf.ntmps4
  go_wp2_with fail
  refine (errorf_plain F at_ w.heap.size d s (w.alloc (.cells #[.iface 2 (.int .i64 at_), .iface 59 (.pointer (some d))] 20)) hF (by simp) (by simp) (cell_old hs)).mono ?_
  rintro e w' ⟨q, rfl, h1, h2, h3⟩
  go_wp2
  go_ret
  exact ⟨q, rfl, by simp at h1; omega, h2, ((Below.refl _ _).alloc (Nat.le_refl _) _).trans (h3.mono (by simp))⟩

set_option maxHeartbeats 800000 in
theorem failed_zzs (F : Interp) (at_ : Int) (code : Int) (z : Bool) (fb : Nat) (e0 e1 d : Addr) (w : World) (hF : F.answers w.tape) (S : Sent w e0 e1 d) (hat : w.cell? ⟨fb, 1, none⟩ = some (.int .i64 at_)) :
    Calls Ybaf.prog 4 #[.pointer (some ⟨fb, 0, none⟩), .iface 26 (.agg #[.int .i64 code, .bool z])] w (Wraps (.iface 26 (.agg #[.int .i64 code, .bool z])) w) := by
  obtain ⟨g0, g1, g2, n01, n02, n12, b0, b1, b2, s, hs⟩ := S
  have q0 := run_eql_iface_types (P := Ybaf.prog) 26 59 (.agg #[.int .i64 code, .bool z]) (.pointer (some e0)) Ybaf.underlying24 (by decide) w
  have q1 := run_eql_iface_types (P := Ybaf.prog) 26 59 (.agg #[.int .i64 code, .bool z]) (.pointer (some e1)) Ybaf.underlying24 (by decide) w
  clear b0 b1 b2 n01 n02 n12
  go_enter Ybaf.func4, Ybaf.ntmps4
  go_wp2_with fail
  refine (errorf_zzs F at_ code z w.heap.size (w.alloc (.cells #[.iface 2 (.int .i64 at_), .iface 26 (.agg #[.int .i64 code, .bool z])] 20)) hF (by simp) (by simp) (by simp)).mono ?_
  rintro e w' ⟨q, rfl, h1, h2, h3⟩
  go_wp2
  go_ret
  exact ⟨q, rfl, by simp at h1; omega, h2, ((Below.refl _ _).alloc (Nat.le_refl _) _).trans (h3.mono (by simp))⟩

end Go.Proofs.YbulkdtjaFmt
