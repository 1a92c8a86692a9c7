import Derived.Test.YbulkdtjoFind
import Derived.Laws.MakeOwn
namespace Go.Proofs.Ybulkdtjo
open Go.RowKit

/-- One option's value. -/
def val (st bv : Nat → Bool) (sv : Nat → ByteArray) (j : Nat) : Value := if st j = true then .iface 9 (.string (sv j)) else .iface 4 (.bool (bv j))

/-- The n plain options at ⟨b, off⟩. -/
structure Opts (w : World) (b off n : Nat) (nm : Nat → ByteArray) (st bv : Nat → Bool) (sv : Nat → ByteArray) : Prop where
  c0 : ∀ j, j < n → w.cell? ⟨b, off + j * 4, none⟩ = some (.string (nm j))
  c1 : ∀ j, j < n → w.cell? ⟨b, off + j * 4 + 1, none⟩ = some (.bool (st j))
  c2 : ∀ j, j < n → w.cell? ⟨b, off + j * 4 + 2, none⟩ = some (.bool (bv j))
  c3 : ∀ j, j < n → w.cell? ⟨b, off + j * 4 + 3, none⟩ = some (.string (sv j))

theorem Yba.info33 : (Yba.prog.info? 33).map (fun i => (i.zero, i.size, i.bytes)) = some (some (.agg #[.string ⟨#[]⟩, .nilIface, .int .i64 0, .int .i64 0]), 4, 48) := by kernel_rfl

/-- The first k of the n options have been laid at g. -/
def Laid (w : World) (g n k : Nat) (nm : Nat → ByteArray) (st bv : Nat → Bool) (sv : Nat → ByteArray) : Prop :=
  ∃ C : Array Value, w.heap[g]? = some (.cells C 33) ∧ C.size = n * 4 ∧ ∀ j, j < k → C[j * 4]? = some (.string (nm j)) ∧ C[j * 4 + 1]? = some (val st bv sv j)

theorem row_some {w : World} {g : Nat} {C : Array Value} {t : TypeId} {fr : Nat × Nat} (h : w.heap[g]? = some (.cells C t fr)) (i : Nat) (hi : i < C.size) : ∃ x, w.cell? ⟨g, i, none⟩ = some x :=
  ⟨C[i], by rw [cell_of_row w g i C t fr h]; exact Array.getElem?_eq_getElem _⟩

theorem Laid_step {w : World} {g n k : Nat} {nm : Nat → ByteArray} {st bv : Nat → Bool} {sv : Nat → ByteArray} {C : Array Value} (hC : w.heap[g]? = some (.cells C 33)) (hs : C.size = n * 4)
    (hel : ∀ j, j < k → C[j * 4]? = some (.string (nm j)) ∧ C[j * 4 + 1]? = some (val st bv sv j)) (hk : k < n) (a b : Value) :
    Laid ((((w.setCell ⟨g, k * 4, none⟩ (.string (nm k))).setCell ⟨g, k * 4 + 1, none⟩ (val st bv sv k)).setCell ⟨g, k * 4 + 2, none⟩ a).setCell ⟨g, k * 4 + 3, none⟩ b) g n (k + 1) nm st bv sv := by
  refine ⟨_, heap_setCell_same _ _ _ _ _ _ (heap_setCell_same _ _ _ _ _ _ (heap_setCell_same _ _ _ _ _ _ (heap_setCell_same _ _ _ _ _ _ hC))), by simpa using hs, fun j hj => ?_⟩
  rcases Nat.lt_or_ge j k with h | h
  · obtain ⟨h1, h2⟩ := hel j h
    constructor
    · rw [Array.getElem?_setIfInBounds_ne (by omega), Array.getElem?_setIfInBounds_ne (by omega), Array.getElem?_setIfInBounds_ne (by omega), Array.getElem?_setIfInBounds_ne (by omega)]; exact h1
    · rw [Array.getElem?_setIfInBounds_ne (by omega), Array.getElem?_setIfInBounds_ne (by omega), Array.getElem?_setIfInBounds_ne (by omega), Array.getElem?_setIfInBounds_ne (by omega)]; exact h2
  · obtain rfl : j = k := by omega
    constructor
    · rw [Array.getElem?_setIfInBounds_ne (by omega), Array.getElem?_setIfInBounds_ne (by omega), Array.getElem?_setIfInBounds_ne (by omega), Array.getElem?_setIfInBounds_self, if_pos (by omega)]
    · rw [Array.getElem?_setIfInBounds_ne (by omega), Array.getElem?_setIfInBounds_ne (by omega), Array.getElem?_setIfInBounds_self, if_pos (by simp; omega)]

set_option maxHeartbeats 400000 in
theorem build_any (b off n cap : Nat) (nm : Nat → ByteArray) (st bv : Nat → Bool) (sv : Nat → ByteArray) (w : World) (hn : n ≤ 1048576) (O : Opts w b off n nm st bv sv) (hb : n = 0 ∨ b < w.heap.size) :
    Calls Yba.prog 4 #[.slice (some ⟨b, off, none⟩) n cap] w fun e w' => e = .returned (.slice (some ⟨w.heap.size, 0, none⟩) n n) ∧ Laid w' w.heap.size n n nm st bv sv ∧ Below w.heap.size w w' := by
  obtain ⟨i0, hi, hz0, hz1, hz2⟩ := info_parts Yba.info33
  have hmk := run_make (P := Yba.prog) w 26 33 i0 _ Yba.underlying26 hi hz0 .i64 .i64 n n (by omega) (by omega) (by rw [hz2]; omega) (by omega)
  rw [hz1, Int.toNat_natCast] at hmk
  clear hi hz0 hz1 hz2
  have hnil := run_neq_slice_nil_any (P := Yba.prog)
  have hnil2 := Lib.run_eql_slice_nil (P := Yba.prog)
  go_enter Yba.func4, Yba.ntmps4
  go_wp2
  clear hmk
  go_loopw [4] (fun i wr => ∃ k : Nat, k ≤ n ∧ i = .int .i64 k ∧ Laid wr w.heap.size n k nm st bv sv ∧ Below w.heap.size w wr) (fun i _ => n - (intOf i).toNat)
  case atStart => exact ⟨0, by omega, rfl, ⟨_, Go.heap_alloc_new _ _, size_madeCells _ _, fun j h => absurd h (by omega)⟩, (Below.refl _ _).alloc (Nat.le_refl _) _⟩
  case round =>
    obtain ⟨k, hk, rfl, ⟨C, hC, hs, hel⟩, bel⟩ := hrel
    by_cases hlt : k < n
    · have hbs : b < w.heap.size := by omega
      have d0 := (bel.cell (p := ⟨b, off + k * 4, none⟩) hbs).trans (O.c0 k hlt)
      have d1 := (bel.cell (p := ⟨b, off + k * 4 + 1, none⟩) hbs).trans (O.c1 k hlt)
      have d2 := (bel.cell (p := ⟨b, off + k * 4 + 2, none⟩) hbs).trans (O.c2 k hlt)
      have d3 := (bel.cell (p := ⟨b, off + k * 4 + 3, none⟩) hbs).trans (O.c3 k hlt)
      have f0 := frozen_of_row wr _ (k * 4) _ _ hC
      have f1 := frozen_of_row wr _ (k * 4 + 1) _ _ hC
      have f2 := frozen_of_row wr _ (k * 4 + 2) _ _ hC
      have f3 := frozen_of_row wr _ (k * 4 + 3) _ _ hC
      obtain ⟨x0, g0⟩ := row_some hC (k * 4) (by omega)
      obtain ⟨x1, g1⟩ := row_some hC (k * 4 + 1) (by omega)
      obtain ⟨x2, g2⟩ := row_some hC (k * 4 + 2) (by omega)
      obtain ⟨x3, g3⟩ := row_some hC (k * 4 + 3) (by omega)
      have HC := (show Hid _ from hC)
      have HE := (show Hid _ from hel)
      have HS := (show Hid _ from hs)
      clear hC hel hs O hb
      have hlt' : (k : Int) < n := by omega
      by_cases hst : st k = true
      · rw [hst] at d1
        have HV : Hid (val st bv sv k = .iface 9 (.string (sv k))) := by simp [Hid, val, hst]
        clear hst
        go_wp2
        go_roundw
        case rel => exact ⟨k + 1, by omega, by go_num, by rw [← HV.out]; exact Laid_step HC.out HS.out HE.out hlt _ _, (((bel.setCell (Nat.le_refl _) _).setCell (Nat.le_refl _) _).setCell (Nat.le_refl _) _).setCell (Nat.le_refl _) _⟩
        case measure => simp [intOf]; omega
      · have hst' : st k = false := by simpa using hst
        rw [hst'] at d1
        have HV : Hid (val st bv sv k = .iface 4 (.bool (bv k))) := by simp [Hid, val, hst]
        clear hst hst'
        go_wp2
        go_roundw
        case rel => exact ⟨k + 1, by omega, by go_num, by rw [← HV.out]; exact Laid_step HC.out HS.out HE.out hlt _ _, (((bel.setCell (Nat.le_refl _) _).setCell (Nat.le_refl _) _).setCell (Nat.le_refl _) _).setCell (Nat.le_refl _) _⟩
        case measure => simp [intOf]; omega
    · obtain rfl : k = n := by omega
      go_wp2
      go_ret
      exact ⟨rfl, ⟨C, hC, hs, hel⟩, bel⟩

set_option maxHeartbeats 400000 in
theorem build_nil (w : World) : Calls Yba.prog 4 #[.slice none 0 0] w fun e w' => e = .returned (.slice none 0 0) ∧ w' = w := by
  have hnil2 := Lib.run_eql_slice_nil (P := Yba.prog)
  go_enter Yba.func4, Yba.ntmps4
  go_wp2
  go_ret
  exact ⟨rfl, rfl⟩
end Go.Proofs.Ybulkdtjo
