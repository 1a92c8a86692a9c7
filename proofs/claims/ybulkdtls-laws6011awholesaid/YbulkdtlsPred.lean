import Derived.Test.YbulkdtlsRows
import Derived.WalkKit
import Derived.WalkSpells
import Derived.WalkLawsBesides
import Derived.RangeFuncBox
import Derived.Maps.AppendAt
namespace Go.Proofs.Ybulkdtls
open Go.RowKit

/-- The law's test: v mod m (as a number from 0 on) is r. -/
def pz (m r v : Int) : Bool := v.tmod m % m == r

theorem tmod_bd (v m : Int) (h1 : 1 ≤ m) : -m < v.tmod m ∧ v.tmod m < m := by
  have h2 := Int.tmod_lt_of_pos v (by omega : 0 < m)
  have h3 := Int.tmod_lt_of_pos (-v) (by omega : 0 < m)
  rw [Int.neg_tmod] at h3
  omega

set_option maxHeartbeats 400000 in
theorem bpred_any (v m r : Int) (w : World) (h1 : 1 ≤ m) (h2 : m ≤ 7) :
    Calls Yba.prog 13 #[.int .i64 v, .int .i64 m, .int .i64 r] w fun e w' => e = .returned (.bool (pz m r v)) ∧ w' = w := by
  obtain ⟨b1, b2⟩ := tmod_bd v m h1
  have hm : (m == 0) = false := by simp; omega
  have hm' : (m == -1) = false := by simp; omega
  unfold pz
  go_enter Yba.func13, Yba.ntmps13
  go_wp2
  go_ret
  exact ⟨rfl, rfl⟩

theorem Yba.info3 : (Yba.prog.info? 3).map (fun i => (i.zero, i.size, i.bytes)) = some (some (.int .i64 0), 1, 8) := by kernel_rfl

/-- A box of another type than int keeps what it holds. -/
def KeepsBoxes (g : Nat) (w w' : World) : Prop := ∀ (B : Nat) (t : TypeId) (u : Value), t ≠ 3 → B ≠ g → Boxed w B t u → Boxed w' B t u

/-- 'xs = append(xs, x)' on the variable at g: what becomes of it. -/
def Logged (n₀ g k : Nat) (xs : List Int) (x : Int) (w w' : World) : Prop :=
  (∃ v', Boxed w' g 22 v' ∧ w'.ownsRow n₀ 3 1 v' (k + 1) ((xs ++ [x]).map (Value.int .i64))) ∧ KeepsOthers w w' ∧ Below n₀ w w' ∧ KeepsBoxes g w w'

theorem logged_mk {n₀ g k : Nat} {xs : List Int} {x : Int} {W w1 : World} {v v' : Value} {tmp : Obj} (hv : Boxed W g 22 v) (hrow : W.ownsRow n₀ 3 1 v k (xs.map (Value.int .i64))) (hn₀ : n₀ ≤ W.heap.size) (hB : n₀ ≤ g)
    (hown' : w1.ownsRow n₀ 3 1 v' (k + 1) ((xs ++ [x]).map (Value.int .i64))) (hgrow : (W.alloc tmp).grownBy w1 v.ownBlock) : Boxed w1 g 22 v ∧ Logged n₀ g k xs x W (w1.setCell ⟨g, 0, none⟩ v') := by
  obtain ⟨h1, h2, h3, h4, h5⟩ := hv.appended (by decide) hrow hn₀ hB hown' hgrow
  refine ⟨h1, ⟨v', h2, h3⟩, h4, h5, fun B t u ht hne hb => ?_⟩
  have hb1 : Boxed w1 B t u := (hb.alloc tmp).kept hgrow (hb.not_row ht hrow)
  exact hb1.kept (grownBy_setCell' w1 g v') (by simpa using hne)

theorem below_back {n₀ g b : Nat} {w w1 : World} {v' u : Value} (h : Below n₀ w (w1.setCell ⟨g, 0, none⟩ v')) (hb : b < n₀) (hg : n₀ ≤ g) (hc : w.cell? ⟨b, 0, none⟩ = some u) : w1.cell? ⟨b, 0, none⟩ = some u := by
  have h1 := (h.cell (p := ⟨b, 0, none⟩) hb).trans hc
  rwa [World.cell?_setCell_other _ _ _ _ (by intro e; injection e; omega)] at h1

set_option maxHeartbeats 800000 in
theorem pred_any (n₀ gc gm gr k : Nat) (xs : List Int) (m r x : Int) (v : Value) (w : World) (h1 : 1 ≤ m) (h2 : m ≤ 7) (hk : k ≤ 1048576)
    (hv : Boxed w gc 22 v) (hrow : w.ownsRow n₀ 3 1 v k (xs.map (Value.int .i64))) (hn₀ : n₀ ≤ w.heap.size) (hB : n₀ ≤ gc) (cm : w.cell? ⟨gm, 0, none⟩ = some (.int .i64 m)) (cr : w.cell? ⟨gr, 0, none⟩ = some (.int .i64 r)) (lm : gm < n₀) (lr : gr < n₀) :
    Calls Yba.prog 12 #[.int .i64 x, .pointer (some ⟨gc, 0, none⟩), .pointer (some ⟨gm, 0, none⟩), .pointer (some ⟨gr, 0, none⟩)] w fun e w' => e = .returned (.bool (pz m r x)) ∧ Logged n₀ gc k xs x w w' := by
  obtain ⟨i0, hi, hz0, hz1, hz2⟩ := info_parts Yba.info3
  have hc := hv.cell
  go_enter Yba.func12, Yba.ntmps12
  go_wp2_with (first
    | (at_builtin; refine wpList_append_own _ rfl _ _ 22 rfl n₀ 3 i0 (.int .i64 0) 1 8 Yba.underlying22 hi hz0 hz1 hz2 rfl (by decide) _ _ _ rfl (hrow.alloc _) ⟨w.heap.size, 0, none⟩ 1 1 [.int .i64 x] rfl rfl (cell_one_new _ _ _) (by simp [Value.oneCell']) (by unfold maxLen; omega) (by omega) (by simp; omega) ?_; intro v' w1 hown' hgrow _; obtain ⟨g', cap', rfl⟩ := ownsRow_succ hown'; obtain ⟨hv1, hL⟩ := logged_mk (x := x) hv hrow hn₀ hB (by simpa using hown') hgrow; have hc1 := hv1.cell; have hf1 := hv1.frozen; have cm1 := below_back hL.2.2.1 lm hB cm; have cr1 := below_back hL.2.2.1 lr hB cr; have dm : gc ≠ gm := (by omega); have dr : gc ≠ gr := (by omega); clear hown' hgrow hv1 hc cm cr)
    | (go_at_call 13; refine (bpred_any x m r _ h1 h2).mono ?_; rintro e w' ⟨rfl, rfl⟩))
  go_ret
  exact ⟨rfl, hL⟩
end Go.Proofs.Ybulkdtls
