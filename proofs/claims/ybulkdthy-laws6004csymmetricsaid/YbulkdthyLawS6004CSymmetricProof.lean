import Derived.Test.YbulkdthyLaw
import Derived.ProofKit
import Derived.OpenShut
namespace Go.Proofs.Ybulkdthy
open Go.ChangeShapes Go.WideShapes Go.ChangeAt Go.RowKit

theorem own : ownKnob Yba.prog.godebug = none := by kernel_rfl
theorem laidOut : laidOutB Yba.prog = true := by kernel_rfl
theorem Yba.cells25 : Yba.prog.cellsOf 25 = 22 := by kernel_rfl
theorem Yba.cells24 : Yba.prog.cellsOf 24 = 2 := by kernel_rfl
theorem Yba.cells22 : Yba.prog.cellsOf 22 = 1 := by kernel_rfl

theorem ext_rowV {cs : Array Value} (hs : cs.size = 22) {lo hi : Nat → Int} (h : ∀ j, j < 11 → cs[j * 2]? = some (.int .u64 (lo j)) ∧ cs[j * 2 + 1]? = some (.int .u64 (hi j))) : cs = rowV lo hi := by
  apply Array.ext_getElem?
  intro i
  by_cases hi' : i < 22
  · obtain ⟨j, hj⟩ : ∃ j, i = j * 2 ∨ i = j * 2 + 1 := ⟨i / 2, by omega⟩
    rcases hj with rfl | rfl
    · rw [(h j (by omega)).1, rowV_lo _ _ _ (by omega)]
    · rw [(h j (by omega)).2, rowV_hi _ _ _ (by omega)]
  · rw [Array.getElem?_eq_none (by omega), Array.getElem?_eq_none (by rw [rowV_size]; omega)]

theorem nonneg_u64 {x : Int} (h : (Lit.int .u64 x).wf = true) : 0 ≤ x := by
  simp [Lit.wf, IntKind.min, IntKind.max, IntKind.signed, IntKind.bits] at h
  omega

theorem open_rows {H : Type} {enc : TypeId × Value → H} {W : World} {base : Nat} {v : Value} {d : DataW H} {p : List MemPlace}
    (hv : Value.okWide Yba.prog W .any base 25 v) (h : DataW.Trod enc Yba.prog W 0 (fun _ => true) true 25 v d p) :
    ∃ lo hi : Nat → Int, v = .agg (rowV lo hi) ∧ (∀ j, 0 ≤ lo j) ∧ ∀ j, 0 ≤ hi j := by
  obtain ⟨cs, rfl, hs⟩ : ∃ cs, v = .agg cs ∧ cs.size = 22 := by
    unfold Value.okWide at hv
    rw [Yba.underlying25] at hv
    obtain ⟨cs, h1, h2, _⟩ := hv
    exact ⟨cs, h1, h2.trans Yba.cells25⟩
  obtain ⟨fuel, hf⟩ := h
  obtain ⟨xs, m, _, _, _, hlen, hel⟩ := DataW.trod_array Yba.underlying25 hf
  have key : ∀ j, j < 11 → ∃ a b : Int, cs[j * 2]? = some (.int .u64 a) ∧ cs[j * 2 + 1]? = some (.int .u64 b) ∧ 0 ≤ a ∧ 0 ≤ b := by
    intro j hj
    have hx : xs[j]? = some (xs[j]'(by omega)) := List.getElem?_eq_getElem _
    have h1 := (hel j hj).trans hx
    rw [Yba.cells24] at h1
    obtain ⟨y0, y1, n, _, _, g0, g1⟩ := trod_struct2 Yba.underlying24 h1
    simp only [Yba.cells22] at g0 g1
    obtain ⟨a, ea, _, wa⟩ := DataW.trod_int Yba.underlying22 g0
    obtain ⟨b, eb, _, wb⟩ := DataW.trod_int Yba.underlying22 g1
    refine ⟨a, b, ?_, ?_, nonneg_u64 wa, nonneg_u64 wb⟩
    · have := congrArg (fun l : List Value => l[0]?) ea
      simpa [Value.cells] using this
    · have := congrArg (fun l : List Value => l[0]?) eb
      simpa [Value.cells] using this
  have hc : ∀ j : Nat, ∃ ab : Int × Int, (j < 11 → cs[j * 2]? = some (.int .u64 ab.1) ∧ cs[j * 2 + 1]? = some (.int .u64 ab.2)) ∧ 0 ≤ ab.1 ∧ 0 ≤ ab.2 := by
    intro j
    by_cases hj : j < 11
    · obtain ⟨a, b, h1, h2, h3, h4⟩ := key j hj
      exact ⟨(a, b), fun _ => ⟨h1, h2⟩, h3, h4⟩
    · exact ⟨(0, 0), fun h => absurd h hj, Int.le_refl _, Int.le_refl _⟩
  refine ⟨fun j => (hc j).choose.1, fun j => (hc j).choose.2, ?_, fun j => (hc j).choose_spec.2.1, fun j => (hc j).choose_spec.2.2⟩
  exact congrArg Value.agg (ext_rowV hs (fun j hj => (hc j).choose_spec.1 hj))

set_option maxRecDepth 100000 in
theorem lifted (os : Os) (started : os.Started) (H : Type) (enc : TypeId × Value → H) :
    ReturnsInHanded {} Yba.checked os 4 .any (Rows.lawS6004CSymmetricSpec.pre6 enc Yba.prog Yba.f4 Rows.lawS6004CSymmetricRow.domain false) (Rows.lawS6004CSymmetricSpec.post enc Yba.prog Yba.f4 false true false false) := by
  refine returnsInHanded_of_change (C := Yba.checked) own started (by kernel_rfl) Yba.func4
    (ChangeSpec.witness6 (enc := enc) (C := Yba.checked) false ⟨#[], #[.agg (rowV (fun _ => 0) (fun _ => 0)), .agg (rowV (fun _ => 0) (fun _ => 0))], []⟩ 8 (by kernel_rfl) (by kernel_rfl) (by kernel_rfl) (by kernel_rfl)) ?_
  intro W base args ds gs before hval0 hW hcnd _
  have hval : ∀ (j : Nat) t v, Yba.f4.params[j]? = some t → args[j]? = some v → Value.okWide Yba.prog W .any base t v := hval0
  have hW' := hW
  obtain ⟨p, q, hA0, hV, rfl, hfz, hnd⟩ := hW
  have hA : DataW.TrodAll enc Yba.prog W 0 (fun _ => true) true Yba.f4.params.toList args.toList ds p := hA0
  rw [Yba.params4] at hA hval
  obtain ⟨v0, vs0, d0, ds0, p0, q0, hargs, rfl, rfl, h0, r0⟩ := trodAll_cons hA
  obtain ⟨v1, vs1, d1, ds1, p1, q1, rfl, rfl, rfl, h1, r1⟩ := trodAll_cons r0
  obtain ⟨rfl, rfl, rfl⟩ := trodAll_nil r1
  obtain rfl : args = #[v0, v1] := by cases args; simp_all
  obtain ⟨rfl, rfl⟩ := trodVars_none hV
  have lt0 : ∀ x ∈ p0, x.block < W.heap.size := by obtain ⟨m, hm⟩ := h0; exact DataW.trod_lt m _ _ _ hm
  have lt1 : ∀ x ∈ p1, x.block < W.heap.size := by obtain ⟨m, hm⟩ := h1; exact DataW.trod_lt m _ _ _ hm
  obtain ⟨xl, xh, rfl, hx, hx'⟩ := open_rows (hval 0 25 v0 rfl rfl) h0
  obtain ⟨yl, yh, rfl, hy, hy'⟩ := open_rows (hval 1 25 v1 rfl rfl) h1
  clear hA0 hval0
  refine (law_walk xl xh yl yh hx hx' hy hy' W).mono fun e W' ⟨he, bel⟩ => ?_
  subst he
  exact ⟨_, rfl, _, _, _, [], _, [], hW', trodAll_mk1 (shut_bool Yba.underlying4 _), (trodAll_cons_mk (Below.trod laidOut (by kernel_rfl) (of_decide_eq_true (by kernel_rfl)) h0 bel lt0) (trodAll_cons_mk (Below.trod laidOut (by kernel_rfl) (of_decide_eq_true (by kernel_rfl)) h1 bel lt1) trodAll_mk0)), rfl, bel.frame _, fun h => by cases h⟩

theorem over : Rows.lawS6004CSymmetricRow.holds Yba.pinned (OpenSpec.ofChange Rows.lawS6004CSymmetricSpec) :=
  OpenClaim.holds_of_wide 4 Yba.f4 rfl rfl rfl rfl rfl rfl rfl ⟨rfl, rfl, rfl, rfl, rfl⟩ rfl rfl rfl rfl rfl (by kernel_rfl) Yba.func4 (by kernel_rfl)
    (of_decide_eq_true (by kernel_rfl)) (by unfold Func.isWrapper; first | (rw [if_pos (by decide +kernel)]; kernel_rfl) | (rw [if_neg (by decide +kernel)]; exact ⟨rfl, rfl⟩))
    (fun os started H enc _ => lifted os started H enc)

theorem proved : Rows.LawS6004CSymmetricSaid := over
#print axioms proved
end Go.Proofs.Ybulkdthy
