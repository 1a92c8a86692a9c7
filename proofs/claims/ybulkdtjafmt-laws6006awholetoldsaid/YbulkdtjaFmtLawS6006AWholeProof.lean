import Derived.Test.YbulkdtjaFmtLaw
import Derived.Test.YbulkdtjaFmtTie
import Derived.Test.YbulkdtjaFmtCards
import Derived.ProofKit
import Derived.OpenShut
import Derived.Stop.JoinedAt
import Derived.Stop.JoinedTold
import Derived.Stop.Texts
import Derived.Stop.LaidErr
import Derived.Stop.LaidTwo
import Derived.SevenTiedAt
namespace Go.Proofs.YbulkdtjaFmt
open Go.ChangeShapes Go.WideShapes Go.ChangeAt Go.RowKit Go.Kit
open Go.Extern.Stop Go.Stop Go.Extern

theorem Ybaf.own : ownKnob Ybaf.prog.godebug = none := by kernel_rfl
theorem Ybaf.laidOut : laidOutB Ybaf.pinned.checked.prog = true := by kernel_rfl
theorem Ybaf.stops : Ybaf.pinned.checked.prog.stops = Rows.lawS6006AWholeRow.stops := by kernel_rfl
theorem Ybaf.stopKnobs : Ybaf.pinned.checked.prog.stopKnobs = [] := by kernel_rfl
theorem Ybaf.quiet (os : Os) : Stop.quiet Ybaf.pinned.checked.prog os := by
  intro k hk
  rw [Ybaf.stopKnobs] at hk
  cases hk
theorem Ybaf.gE0 : Ybaf.prog.globalNamed "io.EOF" = some 0 := by kernel_rfl
theorem Ybaf.gE1 : Ybaf.prog.globalNamed "io.ErrUnexpectedEOF" = some 1 := by kernel_rfl
theorem Ybaf.gE2 : Ybaf.prog.globalNamed (Rows.lawS6006AWholeSpec.vars.headD "") = some 2 := by kernel_rfl
theorem Ybaf.gT0 : (Ybaf.prog.globals[0]?).map (·.type) = some 24 := by kernel_rfl
theorem Ybaf.gT1 : (Ybaf.prog.globals[1]?).map (·.type) = some 24 := by kernel_rfl
theorem Ybaf.gT2 : (Ybaf.prog.globals[2]?).map (·.type) = some 24 := by kernel_rfl
theorem Ybaf.cells61 : Ybaf.prog.cellsOf 61 = 1 := by kernel_rfl
theorem Ybaf.cells9 : Ybaf.prog.cellsOf 9 = 1 := by kernel_rfl
/-- The name of the errors' type, as the given rows have it. -/
def esName : String := match (Rows.laid_io_EOF : DataW Unit) with
  | .iface n _ => n
  | _ => ""
theorem Ybaf.row59 (u : TypeId) (h : Ybaf.prog.typeName? 3 u = some esName) : u = 59 :=
  typeName_ptr_named (nm := "errors.errorString") (by kernel_rfl) (by kernel_rfl) (by decide) u (h.trans (by kernel_rfl))

/-- A start that fits: the three variables hold new errors of their texts. -/
def laidWorldOf (P : Program) (low : Nat) (os : Os) : World :=
  let w0 := World.holding P os ⟨#[.cells #[.string ⟨#[69, 79, 70]⟩] 61, .cells #[.string ⟨#[117, 110, 101, 120, 112, 101, 99, 116, 101, 100, 32, 69, 79, 70]⟩] 61, .cells #[.string ⟨#[104, 111, 108, 100, 102, 97, 115, 116, 58, 32, 100, 97, 109, 97, 103, 101, 100, 32, 98, 97, 99, 107, 117, 112]⟩] 61], #[], []⟩
  { w0 with heap := ((w0.heap.modify 0 fun
      | .cells _ t frozen => .cells #[.iface 59 (.pointer (some ⟨low, 0, none⟩))] t frozen
      | o => o).modify 1 fun
      | .cells _ t frozen => .cells #[.iface 59 (.pointer (some ⟨low + 1, 0, none⟩))] t frozen
      | o => o).modify 2 fun
      | .cells _ t frozen => .cells #[.iface 59 (.pointer (some ⟨low + 2, 0, none⟩))] t frozen
      | o => o }
theorem laid_met (os : Os) (args : Array Value) : laidMet Ybaf.prog Rows.lawS6006AWholeRow.laid ((laidWorldOf Ybaf.prog (World.holding Ybaf.prog default ⟨#[], #[], []⟩).heap.size os).forCall (fun _ _ => 0) ⟨#[], args, []⟩).memory :=
  laidMet_of_run (ps := [.cell 0 0, .cell (World.holding Ybaf.prog default ⟨#[], #[], []⟩).heap.size 0, .cell 1 0, .cell ((World.holding Ybaf.prog default ⟨#[], #[], []⟩).heap.size + 1) 0, .cell 2 0, .cell ((World.holding Ybaf.prog default ⟨#[], #[], []⟩).heap.size + 2) 0]) 8 (by kernel_rfl) (by kernel_rfl) (by kernel_rfl)

/-- What 'laid' gives a walk at the three sentinels. -/
theorem sents {W : World} (hL : laidMet Ybaf.prog Rows.lawS6006AWholeRow.laid W) :
    ∃ e0 e1 d : Addr, Sent W e0 e1 d ∧ W.var? Ybaf.prog (Rows.lawS6006AWholeSpec.vars.headD "") = some #[.iface 59 (.pointer (some d))] := by
  obtain ⟨a0, a1, s0, s1, c0, c1, t0, t1, hv0, hv1, hc0, hs0, hz0, hc1, hs1, hz1, hne, hb0, hb1⟩ := laid_sentinels2 hL Ybaf.gE0 Ybaf.gT0 Ybaf.gE1 Ybaf.gT1 Ybaf.underlying24 Ybaf.row59 Ybaf.underlying59 Ybaf.underlying61 rfl rfl Ybaf.underlying9 Ybaf.cells61 Ybaf.cells9
  obtain ⟨a1', a2, s1', s2, c1', c2, t1', t2, hv1', hv2, hc1', hs1', hz1', hc2, hs2, hz2, hne2, hb1', hb2⟩ := laid_sentinels2 hL.tail Ybaf.gE1 Ybaf.gT1 Ybaf.gE2 Ybaf.gT2 Ybaf.underlying24 Ybaf.row59 Ybaf.underlying59 Ybaf.underlying61 rfl rfl Ybaf.underlying9 Ybaf.cells61 Ybaf.cells9
  obtain rfl : a1' = a1 := by
    have := hv1'.symm.trans hv1
    simpa using this
  have n02 : a0 ≠ a2 := by
    rintro rfl
    have h := hc0.symm.trans hc2
    simp at h
    subst h
    rw [hs0] at hs2
    exact absurd hs2 (by decide)
  refine ⟨a0, a1', a2, ⟨?_, ?_, ?_, hne, n02, hne2, ⟨c0, t0, hb0⟩, ⟨c1, t1, hb1⟩, ⟨c2, t2, hb2⟩, s2, hc2⟩, hv2⟩
  · simpa using World.var?_cell Ybaf.gE0 hv0 0
  · simpa using World.var?_cell Ybaf.gE1 hv1 0
  · simpa using World.var?_cell Ybaf.gE2 hv2 0

set_option maxRecDepth 100000 in
theorem lifted (os : Os) (started : os.Started) (H : Type) (enc : TypeId × Value → H) :
    ReturnsInTold none {} Ybaf.checked os 3 .any Input.okWide ((OpenSpec.ofChange Rows.lawS6006AWholeSpec).preRow enc Ybaf.prog Ybaf.f3 Rows.lawS6006AWholeRow.domain false Rows.lawS6006AWholeRow.laid)
      (fun F => ((OpenSpec.ofChange Rows.lawS6006AWholeSpec).at F).post enc Ybaf.prog Ybaf.f3 false true false false) (aloneAtReturn Ybaf.prog) nothingAlways := by
  refine returnsInTold_of_row (C := Ybaf.checked) (s := OpenSpec.ofChange Rows.lawS6006AWholeSpec) (by kernel_rfl) Ybaf.own started (by kernel_rfl) Ybaf.func3
    (OpenSpec.witness_stopped_at (enc := enc) (C := Ybaf.checked) false (laidWorldOf Ybaf.prog (World.holding Ybaf.prog default ⟨#[], #[], []⟩).heap.size os) #[.int .i64 0, .int .i64 0, .int .u64 0, .int .u8 0, .int .i64 0] rfl (by kernel_rfl) (by kernel_rfl) (by kernel_rfl)
      (OpenSpec.preRow_of_B rfl 8 (by kernel_rfl) (by kernel_rfl) (laid_met os _))) ?_
  intro F W base args ds gs before _ hF hval0 hW _ _ _ hL0 _
  have hL : laidMet Ybaf.prog Rows.lawS6006AWholeRow.laid W := hL0
  have hval : ∀ (j : Nat) t v, Ybaf.f3.params[j]? = some t → args[j]? = some v → Value.okWide Ybaf.prog W .any base t v := hval0
  have hW' := hW
  obtain ⟨p, q, hA0, hV0, rfl, hfz, hnd⟩ := hW
  have hA : DataW.TrodAll enc Ybaf.prog W 0 (fun _ => true) true Ybaf.f3.params.toList args.toList ds p := hA0
  have hV : DataW.TrodVars enc Ybaf.prog W (fun _ => true) [Rows.lawS6006AWholeSpec.vars.headD ""] gs q := hV0
  rw [Ybaf.params3] at hA hval
  obtain ⟨v0, vs0, d0, ds0, p0, q0, hargs, rfl, rfl, h0, r0⟩ := trodAll_cons hA
  obtain ⟨v1, vs1, d1, ds1, p1, q1, rfl, rfl, rfl, h1, r1⟩ := trodAll_cons r0
  obtain ⟨v2, vs2, d2, ds2, p2, q2, rfl, rfl, rfl, h2, r2⟩ := trodAll_cons r1
  obtain ⟨v3, vs3, d3, ds3, p3, q3, rfl, rfl, rfl, h3, r3⟩ := trodAll_cons r2
  obtain ⟨v4, vs4, d4, ds4, p4, q4, rfl, rfl, rfl, h4, r4⟩ := trodAll_cons r3
  obtain ⟨rfl, rfl, rfl⟩ := trodAll_nil r4
  obtain rfl : args = #[v0, v1, v2, v3, v4] := by cases args; simp_all
  obtain ⟨a0, rfl, rfl, rfl, w0⟩ := open_int Ybaf.underlying2 (hval 0 2 v0 rfl rfl) h0
  obtain ⟨a1, rfl, rfl, rfl, w1⟩ := open_int Ybaf.underlying2 (hval 1 2 v1 rfl rfl) h1
  obtain ⟨a2, rfl, rfl, rfl, w2⟩ := open_int Ybaf.underlying22 (hval 2 22 v2 rfl rfl) h2
  obtain ⟨a3, rfl, rfl, rfl, w3⟩ := open_int Ybaf.underlying5 (hval 3 5 v3 rfl rfl) h3
  obtain ⟨a4, rfl, rfl, rfl, w4⟩ := open_int Ybaf.underlying2 (hval 4 2 v4 rfl rfl) h4
  obtain ⟨e0, e1, dm, S, hv⟩ := sents hL
  obtain ⟨rfl, rfl⟩ := hV.unique (vars_read1 enc Ybaf.gE2 Ybaf.gT2 Ybaf.underlying24 hv trivial _)
  clear hA0 hV0 hval0
  obtain ⟨b1, b2⟩ : 0 ≤ a3 ∧ a3 ≤ 255 := by
    simp [Lit.wf, IntKind.min, IntKind.max, IntKind.signed, IntKind.bits] at w3
    omega
  have fin : ∀ (e : Ending) (W' : World), (e = .returned (.bool true) ∧ Below W.heap.size W W') → ∃ v, e = .returned v ∧
      ((OpenSpec.ofChange Rows.lawS6006AWholeSpec).at F.told).post enc Ybaf.checked.prog Ybaf.f3 false true false false W #[.int .i64 a0, .int .i64 a1, .int .u64 a2, .int .u8 a3, .int .i64 a4] v W' := by
    rintro e W' ⟨rfl, bel⟩
    exact ⟨_, rfl, _, _, _, [], [], [.cell 2 0], hW', trodAll_mk1 (shut_bool Ybaf.underlying4 true),
      (trodAll_cons_mk (shut_int Ybaf.underlying2 w0) (trodAll_cons_mk (shut_int Ybaf.underlying2 w1) (trodAll_cons_mk (shut_int Ybaf.underlying22 w2) (trodAll_cons_mk (shut_int Ybaf.underlying5 w3) (trodAll_cons_mk (shut_int Ybaf.underlying2 w4) trodAll_mk0))))),
      vars_read1 enc Ybaf.gE2 Ybaf.gT2 Ybaf.underlying24 (var?_below bel Ybaf.gE2 (World.block_lt_of_cell? _ _ S.g2) hv) trivial _, bel.frame _, fun h => by cases h⟩
  have hk : a3 % 6 = 0 ∨ a3 % 6 = 1 ∨ a3 % 6 = 2 ∨ a3 % 6 = 3 ∨ a3 % 6 = 4 ∨ a3 % 6 = 5 := by omega
  rcases hk with hk | hk | hk | hk | hk | hk
  · exact (law0 F.told a0 a1 a2 a3 a4 e0 e1 dm W hF S b1 b2 hk).mono fin
  · exact (law1 F.told a0 a1 a2 a3 a4 e0 e1 dm W hF S b1 b2 hk).mono fin
  · exact (law2 F.told a0 a1 a2 a3 a4 e0 e1 dm W hF S b1 b2 hk).mono fin
  · exact (law3 F.told a0 a1 a2 a3 a4 e0 e1 dm W hF S b1 b2 hk).mono fin
  · exact (law4 F.told a0 a1 a2 a3 a4 e0 e1 dm W hF S b1 b2 hk).mono fin
  · exact (law5 F.told a0 a1 a2 a3 a4 e0 e1 dm W hF S b1 b2 hk).mono fin

theorem proved : Rows.LawS6006AWholeToldSaid :=
  Claim7.holds_of_told_tied_any_at .later 3 Ybaf.f3 (Rows.lawS6006AWholeRow.stops.headD "") Rows.lawS6006AWholeRow.stops.tail [] _ _ _ _ _ (by kernel_rfl) rfl rfl rfl Ybaf.laidOut (by kernel_rfl) rfl ⟨rfl, rfl, rfl, rfl, rfl, rfl, rfl⟩ rfl rfl (by kernel_rfl) (by kernel_rfl) Ybaf.func3 (by kernel_rfl)
    (of_decide_eq_true (by kernel_rfl)) (of_decide_eq_true (by kernel_rfl)) Ybaf.stops.symm rfl Ybaf.stopKnobs.symm (by kernel_rfl)
    (by kernel_rfl) (by kernel_rfl) (by kernel_rfl) (by kernel_rfl) (by kernel_rfl) (by kernel_rfl) (by kernel_rfl) (by kernel_rfl) (by kernel_rfl) rfl (by kernel_rfl) rfl rfl
    rfl rfl
    rfl (by kernel_rfl) (by kernel_rfl) (by kernel_rfl) (by decide) (by kernel_rfl) lawS6006AWhole_row_tie
    (OpenClaim.moreEntering_of (by kernel_rfl) (by kernel_rfl) (by kernel_rfl) (by kernel_rfl) (by kernel_rfl) (by kernel_rfl) (by kernel_rfl) (by kernel_rfl) (by kernel_rfl) (by kernel_rfl))
    ⟨_, WideRow.started_initial, Ybaf.quiet _⟩
    (fun os started _ H enc _ => lifted os started H enc)
#print axioms proved
end Go.Proofs.YbulkdtjaFmt
