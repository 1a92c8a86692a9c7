import Derived.Test.YbulkdtlsSeqB
import Derived.Test.YbulkdtlsPlainA
import Derived.Laws.CopyOwn
import Derived.Laws.MakeOwn
import Derived.Laws.Rows
namespace Go.Proofs.Ybulkdtls
open Go.RowKit Go.WideShapes

theorem splice_whole {α : Type} (L cs : List α) (h : L.length = cs.length) : splice L 0 cs = cs := by
  simp [splice, ← h]
theorem copied_cells {w : World} {g n : Nat} {zs : Nat → Int} {t : TypeId} {fr : Nat × Nat} (h : w.heap[g]? = some (.cells ((ints zs n).map (Value.int .i64)).toArray t fr)) (j : Nat) (hj : j < n) : w.cell? ⟨g, j, none⟩ = some (.int .i64 (zs j)) := by
  rw [cell_of_row w g j _ t fr h]
  simp [ints, hj]
theorem copied_src {W : World} {sl dp : Option Addr} {b off len : Nat} {zs : Nat → Int} (hsl : 0 < len → sl = some ⟨b, off, none⟩) (hc : ∀ j, j < len → W.cell? ⟨b, off + j, none⟩ = some (.int .i64 (zs j))) :
    0 < ((ints zs len).map (Value.int .i64)).length → dp = dp ∧ ∃ ad, sl = some ad ∧ ∀ j v, ((ints zs len).map (Value.int .i64))[j]? = some v → W.cell? (ad.add j) = some v := fun h => by
  have hp : 0 < len := by simpa [ints] using h
  refine ⟨rfl, ⟨b, off, none⟩, hsl hp, fun j v hv => ?_⟩
  have hj : j < len := by
    have := (List.getElem?_eq_some_iff.1 hv).1
    simpa [ints] using this
  rw [add_plain, hc j hj]
  simpa [ints, hj] using hv
theorem Yba.cells3 : (Yba.prog.info? 3).map (·.size) = some 1 := by kernel_rfl

theorem Touched.of_below {B : Nat} {W W' : World} (h : Below B W W') : Touched (fun k => B ≤ k) W W' := ⟨h.os, h.tape, h.output, h.size, fun k _ hn => h.block k (Nat.lt_of_not_le hn)⟩
/-- A row that lay stays. -/
theorem row_below {W W' : World} {base : Nat} {v : Value} {n : Nat} {xs : List Value} (h : W.ownsRow base 3 1 v n xs) (hb : Below W.heap.size W W') : W'.ownsRow base 3 1 v n xs :=
  (Touched.of_below hb).row h (fun g hg => Nat.not_le_of_lt (h.lt g hg).2)

/-- The law's own two rows: the keys, the folds. -/
structure Two (n₀ : Nat) (W4 W : World) (wk wa : Value) (ks av : List Int) : Prop where
  bel : Below n₀ W4 W
  rk : W.ownsRow n₀ 3 1 wk ks.length (ks.map (Value.int .i64))
  ra : W.ownsRow n₀ 3 1 wa av.length (av.map (Value.int .i64))
  ap : Apart wk wa

theorem grown_alloc_row {W w1 : World} {tmp : Obj} {n₀ : Nat} {v u : Value} {n : Nat} {xs : List Value} (hr : W.ownsRow n₀ 3 1 u n xs) (hg : (W.alloc tmp).grownBy w1 v.ownBlock) (hap : Apart v u) : w1.ownsRow n₀ 3 1 u n xs := by
  refine (hr.alloc tmp).kept hg ?_
  cases hu : u.ownBlock with
  | none => exact .inl rfl
  | some g => exact .inr (fun e => hap g e.symm hu)
theorem apart_new {W : World} {tmp : Obj} {n₀ : Nat} {v v' u : Value} {n : Nat} {xs : List Value} (hr : W.ownsRow n₀ 3 1 u n xs) (hat : v'.ownBlock = v.ownBlock ∨ v'.ownBlock = some (W.alloc tmp).heap.size) (hap : Apart v u) : Apart v' u := fun k hk hk2 => by
  rcases hat with e | e
  · exact hap k (by rw [← e]; exact hk) hk2
  · have := (hr.lt k hk2).2
    rw [e] at hk
    simp at hk
    omega
theorem below_alloc_row {W4 W w1 : World} {tmp : Obj} {n₀ : Nat} {v : Value} {n : Nat} {xs : List Value} (hr : W.ownsRow n₀ 3 1 v n xs) (hb : Below n₀ W4 W) (h4 : n₀ ≤ W4.heap.size) (hg : (W.alloc tmp).grownBy w1 v.ownBlock) : Below n₀ W4 w1 := by
  have := hb.size
  exact (hb.alloc (by omega) tmp).grown hg (by simp; omega) (fun k e => (hr.lt k e).1)

section
variable {n₀ : Nat} {W4 W w1 : World} {wk wa v' : Value} {ks av : List Int} {tmp : Obj} {x : Int}
theorem Two.key (h : Two n₀ W4 W wk wa ks av) (h4 : n₀ ≤ W4.heap.size) (ho : w1.ownsRow n₀ 3 1 v' (ks.length + 1) (ks.map (Value.int .i64) ++ [.int .i64 x])) (hg : (W.alloc tmp).grownBy w1 wk.ownBlock) (hat : v'.ownBlock = wk.ownBlock ∨ v'.ownBlock = some (W.alloc tmp).heap.size) : Two n₀ W4 w1 v' wa (ks ++ [x]) av :=
  ⟨below_alloc_row h.rk h.bel h4 hg, by simpa using ho, grown_alloc_row h.ra hg h.ap, apart_new h.ra hat h.ap⟩
theorem Two.acc (h : Two n₀ W4 W wk wa ks av) (h4 : n₀ ≤ W4.heap.size) (ho : w1.ownsRow n₀ 3 1 v' (av.length + 1) (av.map (Value.int .i64) ++ [.int .i64 x])) (hg : (W.alloc tmp).grownBy w1 wa.ownBlock) (hat : v'.ownBlock = wa.ownBlock ∨ v'.ownBlock = some (W.alloc tmp).heap.size) : Two n₀ W4 w1 wk v' ks (av ++ [x]) :=
  ⟨below_alloc_row h.ra h.bel h4 hg, grown_alloc_row h.rk hg h.ap.symm, by simpa using ho, (apart_new h.rk hat h.ap.symm).symm⟩
theorem Two.put {g n cap : Nat} (h : Two n₀ W4 W wk (.slice (some ⟨g, 0, none⟩) n cap) ks av) (j : Nat) (y : Int) : Two n₀ W4 (W.setCell ⟨g, j, none⟩ (.int .i64 y)) wk (.slice (some ⟨g, 0, none⟩) n cap) ks (av.set j y) := by
  obtain rfl : n = av.length := by
    rcases h.ra.2 with ⟨h', _⟩ | ⟨g', cap', cur, h', _⟩
    · cases h'
    · cases h'; rfl
  obtain ⟨hst, hg⟩ := h.ra.stored j (.int .i64 y)
  refine ⟨h.bel.setCell (by exact (h.ra.lt g rfl).1) _, h.rk.kept hg ?_, by simpa [List.map_set] using hst, h.ap⟩
  cases hu : wk.ownBlock with
  | none => exact .inl rfl
  | some b => exact .inr (fun e => h.ap b hu (by injection e with e; simp [Value.ownBlock, e]))
end
end Go.Proofs.Ybulkdtls
