import Derived.Test.YbulkdtjoLaw
import Derived.Test.YbulkdtjoZero
import Derived.ProofKit
import Derived.OpenShut
import Derived.ShutString
import Derived.Deep.Slices
import Derived.Lib.SmallJoins
namespace Go.Proofs.Ybulkdtjo
open Go.ChangeShapes Go.WideShapes Go.ChangeAt Go.RowKit Go.Deep
open Go.ChangeMaps (open_string shut_string)

theorem own : ownKnob Yba.prog.godebug = none := by kernel_rfl
theorem laidOut : laidOutB Yba.prog = true := by kernel_rfl
theorem Yba.cells25 : Yba.prog.cellsOf 25 = 4 := by kernel_rfl
theorem Yba.cells9 : Yba.prog.cellsOf 9 = 1 := by kernel_rfl
theorem Yba.cells4 : Yba.prog.cellsOf 4 = 1 := by kernel_rfl

/-- One option's four cells. -/
theorem open_opt {H : Type} {enc : TypeId × Value → H} {W : World} {base : Nat} {sp : Nat → Bool} {held : Bool} {fuel : Nat} {cs : List Value} {x : DataW H × List MemPlace}
    (h : DataW.trod enc Yba.prog W base sp held fuel 25 cs = some x) : ∃ (a : ByteArray) (b c : Bool) (d : ByteArray), cs = [.string a, .bool b, .bool c, .string d] := by
  obtain ⟨xs, n, _, _, hl, hlen, hf⟩ := DataW.trod_struct Yba.underlying25 h
  rw [Yba.cells25] at hl
  match cs, hl with
  | [c0, c1, c2, c3], _ =>
    have e : xs.length = 4 := by simpa using hlen
    match xs, e with
    | [y0, y1, y2, y3], _ =>
      have g0 := hf 0 _ rfl
      have g1 := hf 1 _ rfl
      have g2 := hf 2 _ rfl
      have g3 := hf 3 _ rfl
      simp [Yba.cells9, Yba.cells4] at g0 g1 g2 g3
      obtain ⟨a, ea, _⟩ := DataW.trod_string Yba.underlying9 g0
      obtain ⟨b, eb, _⟩ := DataW.trod_bool Yba.underlying4 g1
      obtain ⟨c, ec, _⟩ := DataW.trod_bool Yba.underlying4 g2
      obtain ⟨d, ed, _⟩ := DataW.trod_string Yba.underlying9 g3
      simp at ea eb ec ed
      exact ⟨a, b, c, d, by rw [ea, eb, ec, ed]⟩

/-- The slice of plain options, as the walks want it: nil, or a length, and, where that is not 0, the options' cells. -/
theorem open_opts {H : Type} {enc : TypeId × Value → H} {W : World} {a : Option Addr} {len cap : Nat} {d : DataW H} {p : List MemPlace}
    (h : DataW.Trod enc Yba.prog W 0 (fun _ => true) true 22 (.slice a len cap) d p) :
    (a = none ∧ len = 0 ∧ cap = 0) ∨ (len ≤ maxLen ∧ ∃ x, a = some x ∧ (len = 0 ∨ ∃ b off nm st bv sv, x = ⟨b, off, none⟩ ∧ Opts W b off len nm st bv sv ∧ b < W.heap.size ∧ 0 < len)) := by
  obtain ⟨fuel, hf⟩ := h
  rcases open_slice Yba.underlying22 hf with ⟨hcs, _⟩ | ⟨x, l, c, m, n, D, Pl, hcs, _, hl, hm, hmm, _, hel⟩
  · simp [Value.cells] at hcs
    exact Or.inl hcs
  simp [Value.cells] at hcs
  obtain ⟨rfl, rfl, rfl⟩ := hcs
  refine Or.inr ⟨Nat.le_trans hl hm, x, rfl, ?_⟩
  rcases Nat.eq_zero_or_pos len with hz | hpos
  · exact Or.inl hz
  right
  simp only [if_true] at hmm
  have key : ∀ i, i < m → ∃ y : ByteArray × Bool × Bool × ByteArray, W.cell? (x.add (i * 4)) = some (.string y.1) ∧ W.cell? ((x.add (i * 4)).add 1) = some (.bool y.2.1) ∧ W.cell? ((x.add (i * 4)).add 2) = some (.bool y.2.2.1) ∧ W.cell? ((x.add (i * 4)).add 3) = some (.string y.2.2.2) := by
    intro i hi
    obtain ⟨cs', h1, h2⟩ := hel i hi
    rw [Yba.cells25] at h1
    obtain ⟨a, b, c, d, rfl⟩ := open_opt h2
    obtain ⟨_, _, h3⟩ := World.cells?_some h1
    refine ⟨(a, b, c, d), ?_, ?_, ?_, ?_⟩
    · simpa [Addr.add] using h3 0 (by omega)
    · simpa using h3 1 (by omega)
    · simpa using h3 2 (by omega)
    · simpa using h3 3 (by omega)
  obtain ⟨f, hf'⟩ := choose_lt key
  obtain ⟨b, off, spot⟩ := x
  have hspot : spot = none := by simpa [Addr.add] using World.cell?_spot (hf' 0 (by omega)).1
  subst hspot
  simp only [add_plain] at hf'
  refine ⟨b, off, fun i => (f i).1, fun i => (f i).2.1, fun i => (f i).2.2.1, fun i => (f i).2.2.2, rfl, ⟨fun j hj => (hf' j (by omega)).1, fun j hj => (hf' j (by omega)).2.1, fun j hj => (hf' j (by omega)).2.2.1, fun j hj => (hf' j (by omega)).2.2.2⟩, ?_, hpos⟩
  exact World.block_lt_of_cell? _ _ (hf' 0 (by omega)).1

set_option maxRecDepth 100000 in
theorem lifted (os : Os) (started : os.Started) (H : Type) (enc : TypeId × Value → H) :
    ReturnsInHanded {} Yba.checked os 3 .any (Rows.lawS6007BWholeSpec.pre6 enc Yba.prog Yba.f3 Rows.lawS6007BWholeRow.domain false) (Rows.lawS6007BWholeSpec.post enc Yba.prog Yba.f3 false true false false) := by
  refine returnsInHanded_of_change (C := Yba.checked) own started (by kernel_rfl) Yba.func3
    (ChangeSpec.witness6 (enc := enc) (C := Yba.checked) false ⟨#[], #[.slice none 0 0, .string ⟨#[]⟩, .bool false, .int .u32 0], []⟩ 8 (by kernel_rfl) (by kernel_rfl) (by kernel_rfl) (by kernel_rfl)) ?_
  intro W base args ds gs before hval0 hW hcnd _
  have hval : ∀ (j : Nat) t v, Yba.f3.params[j]? = some t → args[j]? = some v → Value.okWide Yba.prog W .any base t v := hval0
  have hW' := hW
  obtain ⟨p, q, hA0, hV, rfl, hfz, hnd⟩ := hW
  have hA : DataW.TrodAll enc Yba.prog W 0 (fun _ => true) true Yba.f3.params.toList args.toList ds p := hA0
  rw [Yba.params3] at hA hval
  obtain ⟨v0, vs0, d0, ds0, p0, q0, hargs, rfl, rfl, h0, r0⟩ := trodAll_cons hA
  obtain ⟨v1, vs1, d1, ds1, p1, q1, rfl, rfl, rfl, h1, r1⟩ := trodAll_cons r0
  obtain ⟨v2, vs2, d2, ds2, p2, q2, rfl, rfl, rfl, h2, r2⟩ := trodAll_cons r1
  obtain ⟨v3, vs3, d3, ds3, p3, q3, rfl, rfl, rfl, h3, r3⟩ := trodAll_cons r2
  obtain ⟨rfl, rfl, rfl⟩ := trodAll_nil r3
  obtain rfl : args = #[v0, v1, v2, v3] := by cases args; simp_all
  obtain ⟨rfl, rfl⟩ := trodVars_none hV
  obtain ⟨a0, len0, cap0, rfl⟩ := okWide_slice Yba.underlying22 (hval 0 22 v0 rfl rfl)
  have lt0 : ∀ x ∈ p0, x.block < W.heap.size := by obtain ⟨m, hm⟩ := h0; exact DataW.trod_lt m _ _ _ hm
  obtain ⟨t, rfl, rfl, rfl, wt⟩ := open_string Yba.underlying9 (hval 1 9 v1 rfl rfl) h1
  obtain ⟨up, rfl, rfl, rfl⟩ := open_bool Yba.underlying4 (hval 2 4 v2 rfl rfl) h2
  obtain ⟨pk, rfl, rfl, rfl, wp⟩ := open_int Yba.underlying23 (hval 3 23 v3 rfl rfl) h3
  clear hA0 hval0
  obtain ⟨b1, b2⟩ : 0 ≤ pk ∧ pk ≤ 4294967295 := by
    have w3 := wp
    simp [Lit.wf, IntKind.min, IntKind.max, IntKind.signed, IntKind.bits] at w3
    omega
  have fin : ∀ (e : Ending) (W' : World), (e = .returned (.bool true) ∧ Below W.heap.size W W') → ∃ v, e = .returned v ∧
      Rows.lawS6007BWholeSpec.post enc Yba.checked.prog Yba.f3 false true false false W #[.slice a0 len0 cap0, .string t, .bool up, .int .u32 pk] v W' := by
    rintro e W' ⟨rfl, bel⟩
    exact ⟨_, rfl, _, _, _, [], _, [], hW', trodAll_mk1 (shut_bool Yba.underlying4 _), (trodAll_cons_mk (Below.trod laidOut (by kernel_rfl) (of_decide_eq_true (by kernel_rfl)) h0 bel lt0) (trodAll_cons_mk (shut_string Yba.underlying9 wt) (trodAll_cons_mk (shut_bool Yba.underlying4 up) (trodAll_cons_mk (shut_int Yba.underlying23 wp) trodAll_mk0)))), rfl, bel.frame _, fun h => by cases h⟩
  rcases open_opts h0 with ⟨rfl, rfl, rfl⟩ | ⟨hm, x, rfl, hz | ⟨b, off, nm, st, bv, sv, rfl, O, hb, hpos⟩⟩
  · exact (law_nil t up pk W).mono fin
  · subst hz
    exact (law_zero x cap0 t up pk W).mono fin
  · by_cases hlong : 1048576 < len0
    · exact (law_long _ len0 cap0 t up pk W hlong hm).mono fin
    · have hn : len0 ≤ 1048576 := by omega
      cases up with
      | false => exact (law_plain b off len0 cap0 nm st bv sv t pk W hn O (Or.inr hb)).mono fin
      | true => exact (law_pick b off len0 cap0 nm st bv sv t pk b1 b2 hpos W hn O (Or.inr hb)).mono fin

theorem over : Rows.lawS6007BWholeRow.holds Yba.pinned (OpenSpec.ofChange Rows.lawS6007BWholeSpec) :=
  OpenClaim.holds_of_wide 3 Yba.f3 rfl rfl rfl rfl rfl rfl rfl ⟨rfl, rfl, rfl, rfl, rfl⟩ rfl rfl rfl rfl rfl (by kernel_rfl) Yba.func3 (by kernel_rfl)
    (of_decide_eq_true (by kernel_rfl)) (by unfold Func.isWrapper; first | (rw [if_pos (by decide +kernel)]; kernel_rfl) | (rw [if_neg (by decide +kernel)]; exact ⟨rfl, rfl⟩))
    (fun os started H enc _ => lifted os started H enc)

theorem proved : Rows.LawS6007BWholeSaid := over
#print axioms proved
end Go.Proofs.Ybulkdtjo
