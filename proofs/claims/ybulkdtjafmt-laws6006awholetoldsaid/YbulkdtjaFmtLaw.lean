import Derived.Test.YbulkdtjaFmtFailed
import Derived.Test.YbulkdtjaFmtIs
import Derived.WalkLawsBesides
import Derived.Deep.QuietTactic
import Derived.BigQuiet
namespace Go.Proofs.YbulkdtjaFmt
open Go.RowKit Go.Extern.Stop Go.Stop Go.Extern

def frm (at_ fr cnt : Int) : Array Value := #[.nilIface, .int .i64 at_, .int .i64 fr, .slice none 0 0, .slice none 0 0, .int .u64 cnt, .nilIface]

theorem frm_kept {at_ fr cnt : Int} {w w1 : World} (h : Below (w.alloc (.cells (frm at_ fr cnt) 32)).heap.size (w.alloc (.cells (frm at_ fr cnt) 32)) w1) :
    w1.cell? ⟨w.heap.size, 0, none⟩ = some .nilIface ∧ w1.cell? ⟨w.heap.size, 1, none⟩ = some (.int .i64 at_) ∧ w1.cell? ⟨w.heap.size, 2, none⟩ = some (.int .i64 fr) ∧ w1.cell? ⟨w.heap.size, 3, none⟩ = some (.slice none 0 0) ∧
    w1.cell? ⟨w.heap.size, 4, none⟩ = some (.slice none 0 0) ∧ w1.cell? ⟨w.heap.size, 5, none⟩ = some (.int .u64 cnt) ∧ w1.cell? ⟨w.heap.size, 6, none⟩ = some .nilIface := by
  refine ⟨?_, ?_, ?_, ?_, ?_, ?_, ?_⟩
  all_goals (rw [h.cell (by simp)]; simp [frm])

set_option maxRecDepth 100000 in
set_option maxHeartbeats 1600000 in
theorem law0 (F : Interp) (at_ fr cnt sel code : Int) (e0 e1 d : Addr) (w : World) (hF : F.answers w.tape) (S : Sent w e0 e1 d) (h0 : 0 ≤ sel) (h1 : sel ≤ 255) (hk : sel % 6 = 0) :
    Calls Ybaf.prog 3 #[.int .i64 at_, .int .i64 fr, .int .u64 cnt, .int .u8 sel, .int .i64 code] w fun e w' => e = .returned (.bool true) ∧ Below w.heap.size w w' := by
  have g0 := S.g0
  go_enter Ybaf.func3, Ybaf.ntmps3
  go_wp2_with fail
  have B1 : Below w.heap.size w (w.alloc (.cells (frm at_ fr cnt) 32)) := (Below.refl _ _).alloc (Nat.le_refl _) _
  refine (failed_eof0 F at_ w.heap.size e0 e1 d (w.alloc (.cells (frm at_ fr cnt) 32)) hF (S.below B1) (by simp [frm])).mono ?_
  rintro e w1 ⟨q, rfl, p1, p2, p3⟩
  obtain ⟨k0, k1, k2, k3, k4, k5, k6⟩ := frm_kept p3
  have S1 : Sent w1 e0 e1 d := (S.below B1).below p3
  have B2 : Below w.heap.size w w1 := B1.trans (p3.mono (by simp))
  have hq : w.heap.size ≤ q := by simp at p1; omega
  clear B1 p1 p3 S hF
  have z1 := run_neq_slice_nil_any (P := Ybaf.prog)
  go_wp2
  obtain ⟨g0, g1, g2, n01, n02, n12, ⟨c0, t0, b0⟩, ⟨c1, t1, b1⟩, ⟨c2, t2, b2⟩, s, hs⟩ := S1
  have qd := eql_same d
  clear k0 k1 k2 k3 k4 k5 k6 z1 hs
  go_quiet ((first
    | (go_at_call 5; exact Calls.quiet_of_same (unwrap_w q _ _ (by exact p2)))
    | (go_at_call_of 6 d; exact Calls.quiet_of_same (is_w_same q d _ (by exact p2)))
    | (go_at_call_of 6 e0; exact Calls.quiet_of_same (is_w_other q d e0 c2 c0 t2 t0 _ (by exact p2) (Ne.symm n02) (by exact b2) (by exact b0)))
    | (go_at_call_of 6 e1; exact Calls.quiet_of_same (is_w_other q d e1 c2 c1 t2 t1 _ (by exact p2) (Ne.symm n12) (by exact b2) (by exact b1)))))
  go_wp2
  go_ret
  exact ⟨rfl, below_drewN B2 _⟩

set_option maxRecDepth 100000 in
set_option maxHeartbeats 1600000 in
theorem law1 (F : Interp) (at_ fr cnt sel code : Int) (e0 e1 d : Addr) (w : World) (hF : F.answers w.tape) (S : Sent w e0 e1 d) (h0 : 0 ≤ sel) (h1 : sel ≤ 255) (hk : sel % 6 = 1) :
    Calls Ybaf.prog 3 #[.int .i64 at_, .int .i64 fr, .int .u64 cnt, .int .u8 sel, .int .i64 code] w fun e w' => e = .returned (.bool true) ∧ Below w.heap.size w w' := by
  have g1 := S.g1
  go_enter Ybaf.func3, Ybaf.ntmps3
  go_wp2_with fail
  have B1 : Below w.heap.size w (w.alloc (.cells (frm at_ fr cnt) 32)) := (Below.refl _ _).alloc (Nat.le_refl _) _
  refine (failed_eof1 F at_ w.heap.size e0 e1 d (w.alloc (.cells (frm at_ fr cnt) 32)) hF (S.below B1) (by simp [frm])).mono ?_
  rintro e w1 ⟨q, rfl, p1, p2, p3⟩
  obtain ⟨k0, k1, k2, k3, k4, k5, k6⟩ := frm_kept p3
  have S1 : Sent w1 e0 e1 d := (S.below B1).below p3
  have B2 : Below w.heap.size w w1 := B1.trans (p3.mono (by simp))
  have hq : w.heap.size ≤ q := by simp at p1; omega
  clear B1 p1 p3 S hF
  have z1 := run_neq_slice_nil_any (P := Ybaf.prog)
  go_wp2
  obtain ⟨g0, g1, g2, n01, n02, n12, ⟨c0, t0, b0⟩, ⟨c1, t1, b1⟩, ⟨c2, t2, b2⟩, s, hs⟩ := S1
  have qd := eql_same d
  clear k0 k1 k2 k3 k4 k5 k6 z1 hs
  go_quiet ((first
    | (go_at_call 5; exact Calls.quiet_of_same (unwrap_w q _ _ (by exact p2)))
    | (go_at_call_of 6 d; exact Calls.quiet_of_same (is_w_same q d _ (by exact p2)))
    | (go_at_call_of 6 e0; exact Calls.quiet_of_same (is_w_other q d e0 c2 c0 t2 t0 _ (by exact p2) (Ne.symm n02) (by exact b2) (by exact b0)))
    | (go_at_call_of 6 e1; exact Calls.quiet_of_same (is_w_other q d e1 c2 c1 t2 t1 _ (by exact p2) (Ne.symm n12) (by exact b2) (by exact b1)))))
  go_wp2
  go_ret
  exact ⟨rfl, below_drewN B2 _⟩

set_option maxRecDepth 100000 in
set_option maxHeartbeats 1600000 in
theorem law2 (F : Interp) (at_ fr cnt sel code : Int) (e0 e1 d : Addr) (w : World) (hF : F.answers w.tape) (S : Sent w e0 e1 d) (h0 : 0 ≤ sel) (h1 : sel ≤ 255) (hk : sel % 6 = 2) :
    Calls Ybaf.prog 3 #[.int .i64 at_, .int .i64 fr, .int .u64 cnt, .int .u8 sel, .int .i64 code] w fun e w' => e = .returned (.bool true) ∧ Below w.heap.size w w' := by
  go_enter Ybaf.func3, Ybaf.ntmps3
  go_wp2_with fail
  have B1 : Below w.heap.size w (w.alloc (.cells (frm at_ fr cnt) 32)) := (Below.refl _ _).alloc (Nat.le_refl _) _
  refine (failed_nil F at_ w.heap.size e0 e1 d (w.alloc (.cells (frm at_ fr cnt) 32)) hF (S.below B1) (by simp [frm])).mono ?_
  rintro e w1 ⟨q, rfl, p1, p2, p3⟩
  obtain ⟨k0, k1, k2, k3, k4, k5, k6⟩ := frm_kept p3
  have S1 : Sent w1 e0 e1 d := (S.below B1).below p3
  have B2 : Below w.heap.size w w1 := B1.trans (p3.mono (by simp))
  have hq : w.heap.size ≤ q := by simp at p1; omega
  clear B1 p1 p3 S hF
  have z1 := run_neq_slice_nil_any (P := Ybaf.prog)
  obtain ⟨g0, g1, g2, n01, n02, n12, ⟨c0, t0, b0⟩, ⟨c1, t1, b1⟩, ⟨c2, t2, b2⟩, s, hs⟩ := S1
  go_wp2_with (first
    | (go_at_call 5; refine (unwrap_w q _ _ p2).mono ?_; rintro e w' ⟨rfl, rfl⟩)
    | (go_at_call_of 6 d; refine (is_w_nil q d _ p2).mono ?_; rintro e w' ⟨rfl, rfl⟩)
    | (go_at_call_of 6 e0; refine (is_w_nil q e0 _ p2).mono ?_; rintro e w' ⟨rfl, rfl⟩))
  go_ret
  exact ⟨rfl, B2⟩

set_option maxRecDepth 100000 in
set_option maxHeartbeats 1600000 in
theorem law3 (F : Interp) (at_ fr cnt sel code : Int) (e0 e1 d : Addr) (w : World) (hF : F.answers w.tape) (S : Sent w e0 e1 d) (h0 : 0 ≤ sel) (h1 : sel ≤ 255) (hk : sel % 6 = 3) :
    Calls Ybaf.prog 3 #[.int .i64 at_, .int .i64 fr, .int .u64 cnt, .int .u8 sel, .int .i64 code] w fun e w' => e = .returned (.bool true) ∧ Below w.heap.size w w' := by
  have g2 := S.g2
  go_enter Ybaf.func3, Ybaf.ntmps3
  go_wp2_with fail
  have B1 : Below w.heap.size w (w.alloc (.cells (frm at_ fr cnt) 32)) := (Below.refl _ _).alloc (Nat.le_refl _) _
  refine (failed_dam F at_ w.heap.size e0 e1 d (w.alloc (.cells (frm at_ fr cnt) 32)) hF (S.below B1) (by simp [frm])).mono ?_
  rintro e w1 ⟨q, rfl, p1, p2, p3⟩
  obtain ⟨k0, k1, k2, k3, k4, k5, k6⟩ := frm_kept p3
  have S1 : Sent w1 e0 e1 d := (S.below B1).below p3
  have B2 : Below w.heap.size w w1 := B1.trans (p3.mono (by simp))
  have hq : w.heap.size ≤ q := by simp at p1; omega
  clear B1 p1 p3 S hF
  have z1 := run_neq_slice_nil_any (P := Ybaf.prog)
  clear g2
  obtain ⟨g0, g1, g2, n01, n02, n12, ⟨c0, t0, b0⟩, ⟨c1, t1, b1⟩, ⟨c2, t2, b2⟩, s, hs⟩ := S1
  have qd := eql_same d
  go_wp2_with (first
    | (go_at_call 5; refine (unwrap_w q _ _ p2).mono ?_; rintro e w' ⟨rfl, rfl⟩)
    | (go_at_call_of 6 d; refine (is_w_same q d _ p2).mono ?_; rintro e w' ⟨rfl, rfl⟩)
    | (go_at_call_of 6 e0; refine (is_w_other q d e0 c2 c0 t2 t0 _ p2 (Ne.symm n02) b2 b0).mono ?_; rintro e w' ⟨rfl, rfl⟩)
    | (go_at_call_of 6 e1; refine (is_w_other q d e1 c2 c1 t2 t1 _ p2 (Ne.symm n12) b2 b1).mono ?_; rintro e w' ⟨rfl, rfl⟩))
  go_ret
  exact ⟨rfl, B2⟩

set_option maxRecDepth 100000 in
set_option maxHeartbeats 1600000 in
theorem law4 (F : Interp) (at_ fr cnt sel code : Int) (e0 e1 d : Addr) (w : World) (hF : F.answers w.tape) (S : Sent w e0 e1 d) (h0 : 0 ≤ sel) (h1 : sel ≤ 255) (hk : sel % 6 = 4) :
    Calls Ybaf.prog 3 #[.int .i64 at_, .int .i64 fr, .int .u64 cnt, .int .u8 sel, .int .i64 code] w fun e w' => e = .returned (.bool true) ∧ Below w.heap.size w w' := by
  go_enter Ybaf.func3, Ybaf.ntmps3
  go_wp2_with fail
  have B1 : Below w.heap.size w (w.alloc (.cells (frm at_ fr cnt) 32)) := (Below.refl _ _).alloc (Nat.le_refl _) _
  refine (failed_zzs F at_ code false w.heap.size e0 e1 d (w.alloc (.cells (frm at_ fr cnt) 32)) hF (S.below B1) (by simp [frm])).mono ?_
  rintro e w1 ⟨q, rfl, p1, p2, p3⟩
  obtain ⟨k0, k1, k2, k3, k4, k5, k6⟩ := frm_kept p3
  have S1 : Sent w1 e0 e1 d := (S.below B1).below p3
  have B2 : Below w.heap.size w w1 := B1.trans (p3.mono (by simp))
  have hsz : w.heap.size ≤ w1.heap.size := B2.size
  clear B1 p1 p3 S hF
  have z1 := run_neq_slice_nil_any (P := Ybaf.prog)
  have g2 := S1.g2
  have qz := run_eql_zzs w1 code false
  go_wp2_with (first
    | (go_at_call 5; refine (unwrap_w q _ _ p2).mono ?_; rintro e w' ⟨rfl, rfl⟩)
    | (go_at_call_of 6 d; refine (is_w_zf q code d _ p2).mono ?_; rintro e w2 ⟨rfl, hb2⟩; have S2 : Sent w2 e0 e1 d := S1.below hb2; have p22 := (hb2.cell (World.block_lt_of_cell? _ _ p2)).trans p2; have B3 := B2.trans (hb2.mono hsz); have hsz2 : w.heap.size ≤ w2.heap.size := B3.size; have g0 := S2.g0; clear g2 hb2 qz)
    | (go_at_call_of 6 e0; refine (is_w_zf q code e0 _ p22).mono ?_; rintro e w3 ⟨rfl, hb3⟩; have S3 : Sent w3 e0 e1 d := S2.below hb3; have p23 := (hb3.cell (World.block_lt_of_cell? _ _ p22)).trans p22; have B4 := B3.trans (hb3.mono hsz2); have hsz3 : w.heap.size ≤ w3.heap.size := B4.size; have g1 := S3.g1; clear g0 hb3)
    | (go_at_call_of 6 e1; refine (is_w_zf q code e1 _ p23).mono ?_; rintro e w4 ⟨rfl, hb4⟩; have B5 := B4.trans (hb4.mono hsz3); clear g1 hb4)
    | (go_at_call_of 6 code; refine (is_w_z_same q code false _ p2).mono ?_; rintro e w' ⟨rfl, rfl⟩))
  go_ret
  exact ⟨rfl, B5⟩

set_option maxRecDepth 100000 in
set_option maxHeartbeats 1600000 in
theorem law5 (F : Interp) (at_ fr cnt sel code : Int) (e0 e1 d : Addr) (w : World) (hF : F.answers w.tape) (S : Sent w e0 e1 d) (h0 : 0 ≤ sel) (h1 : sel ≤ 255) (hk : sel % 6 = 5) :
    Calls Ybaf.prog 3 #[.int .i64 at_, .int .i64 fr, .int .u64 cnt, .int .u8 sel, .int .i64 code] w fun e w' => e = .returned (.bool true) ∧ Below w.heap.size w w' := by
  go_enter Ybaf.func3, Ybaf.ntmps3
  go_wp2_with fail
  have B1 : Below w.heap.size w (w.alloc (.cells (frm at_ fr cnt) 32)) := (Below.refl _ _).alloc (Nat.le_refl _) _
  refine (failed_zzs F at_ code true w.heap.size e0 e1 d (w.alloc (.cells (frm at_ fr cnt) 32)) hF (S.below B1) (by simp [frm])).mono ?_
  rintro e w1 ⟨q, rfl, p1, p2, p3⟩
  obtain ⟨k0, k1, k2, k3, k4, k5, k6⟩ := frm_kept p3
  have S1 : Sent w1 e0 e1 d := (S.below B1).below p3
  have B2 : Below w.heap.size w w1 := B1.trans (p3.mono (by simp))
  have hsz : w.heap.size ≤ w1.heap.size := B2.size
  clear B1 p1 p3 S hF
  have z1 := run_neq_slice_nil_any (P := Ybaf.prog)
  have g2 := S1.g2
  have qz := run_eql_zzs w1 code true
  go_wp2_with (first
    | (go_at_call 5; refine (unwrap_w q _ _ p2).mono ?_; rintro e w' ⟨rfl, rfl⟩)
    | (go_at_call_of 6 d; refine (is_w_zt_other q code e0 d _ _ _ _ _ p2 S1.g0 S1.n02 S1.b0.choose_spec.choose_spec S1.b2.choose_spec.choose_spec).mono ?_; rintro e w2 ⟨rfl, hb2⟩; have S2 : Sent w2 e0 e1 d := S1.below hb2; have p22 := (hb2.cell (World.block_lt_of_cell? _ _ p2)).trans p2; have B3 := B2.trans (hb2.mono hsz); have hsz2 : w.heap.size ≤ w2.heap.size := B3.size; have g0 := S2.g0; clear g2 hb2 qz)
    | (go_at_call_of 6 e0; refine (is_w_zt_same q code e0 _ p22 S2.g0).mono ?_; rintro e w3 ⟨rfl, hb3⟩; have S3 : Sent w3 e0 e1 d := S2.below hb3; have p23 := (hb3.cell (World.block_lt_of_cell? _ _ p22)).trans p22; have B4 := B3.trans (hb3.mono hsz2); have hsz3 : w.heap.size ≤ w3.heap.size := B4.size; have g1 := S3.g1; clear g0 hb3)
    | (go_at_call_of 6 e1; refine (is_w_zt_other q code e0 e1 _ _ _ _ _ p23 S3.g0 S3.n01 S3.b0.choose_spec.choose_spec S3.b1.choose_spec.choose_spec).mono ?_; rintro e w4 ⟨rfl, hb4⟩; have B5 := B4.trans (hb4.mono hsz3); clear g1 hb4)
    | (go_at_call_of 6 code; refine (is_w_z_same q code true _ p2).mono ?_; rintro e w' ⟨rfl, rfl⟩))
  go_ret
  exact ⟨rfl, B5⟩

end Go.Proofs.YbulkdtjaFmt
