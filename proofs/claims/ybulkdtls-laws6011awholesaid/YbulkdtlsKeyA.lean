import Derived.Test.YbulkdtlsPred
import Derived.Maps.OwnIn
import Derived.Laws.OwnMore
namespace Go.Proofs.Ybulkdtls
open Go.RowKit

/-- What an append to the variable at g has made of the world: v: what it held; v': what it holds. -/
def AppTo (n₀ g : Nat) (v v' : Value) (xs : List Int) (x : Int) (W W' : World) : Prop :=
  ∃ w1 tmp, w1.ownsRow n₀ 3 1 v' (xs.length + 1) ((xs ++ [x]).map (Value.int .i64)) ∧ (W.alloc tmp).grownBy w1 v.ownBlock ∧
    (v'.ownBlock = v.ownBlock ∨ v'.ownBlock = some (W.alloc tmp).heap.size) ∧ W' = w1.setCell ⟨g, 0, none⟩ v'
def Appended (n₀ g : Nat) (v : Value) (xs : List Int) (x : Int) (W W' : World) : Prop := ∃ v', AppTo n₀ g v v' xs x W W'

/-- The key: v mod m, as an unsigned number. -/
def kz (m x : Int) : Int := wrap64 ((IntKind.u64.wrap x).tmod m)
/-- The fold's step. -/
def fz (a x : Int) : Int := wrap64 (wrap64 (wrap64 (a * 3) + x) + 1)

set_option maxHeartbeats 800000 in
theorem key_A (n₀ gk gm : Nat) (xs : List Int) (m x : Int) (v : Value) (w : World) (h1 : 1 ≤ m) (h2 : m ≤ 5) (hk : xs.length ≤ 1048576)
    (hv : Boxed w gk 22 v) (hrow : w.ownsRow n₀ 3 1 v xs.length (xs.map (Value.int .i64))) (hn₀ : n₀ ≤ w.heap.size) (hB : n₀ ≤ gk) (cm : w.cell? ⟨gm, 0, none⟩ = some (.int .u64 m)) (lm : gm < n₀) :
    Calls Yba.prog 7 #[.int .i64 x, .pointer (some ⟨gk, 0, none⟩), .pointer (some ⟨gm, 0, none⟩)] w fun e w' => e = .returned (.int .i64 (kz m x)) ∧ Appended n₀ gk v xs x w w' := by
  obtain ⟨i0, hi, hz0, hz1, hz2⟩ := info_parts Yba.info3
  have hc := hv.cell
  have hm : (m == 0) = false := by simp; omega
  unfold kz
  go_enter Yba.func7, Yba.ntmps7
  go_wp2_with (at_builtin; refine wpList_append_own_at _ rfl _ _ 22 rfl n₀ 3 i0 (.int .i64 0) 1 8 Yba.underlying22 hi hz0 hz1 hz2 rfl (by decide) _ _ _ rfl (hrow.alloc _) ⟨w.heap.size, 0, none⟩ 1 1 [.int .i64 x] rfl rfl (cell_one_new _ _ _) (by simp [Value.oneCell']) (by unfold maxLen; omega) (by omega) (by simp; omega) ?_; intro v' w1 hown' hgrow _ hat; obtain ⟨g', cap', rfl⟩ := ownsRow_succ hown'; obtain ⟨hv1, hL⟩ := logged_mk (x := x) hv hrow hn₀ hB (by simpa using hown') hgrow; have hc1 := hv1.cell; have hf1 := hv1.frozen; have cm1 := below_back hL.2.2.1 lm hB cm; have dm : gk ≠ gm := (by omega); have HA := (show Hid (Appended n₀ gk v xs x w (w1.setCell ⟨gk, 0, none⟩ (.slice (some ⟨g', 0, none⟩) (xs.length + 1) cap'))) from ⟨_, w1, _, (by simpa using hown'), hgrow, hat, rfl⟩); clear hown' hgrow hat hv1 hc cm)
  go_ret
  exact ⟨rfl, HA.out⟩

set_option maxHeartbeats 800000 in
theorem add_A (n₀ ga : Nat) (xs : List Int) (a x : Int) (v : Value) (w : World) (hk : xs.length ≤ 1048576)
    (hv : Boxed w ga 22 v) (hrow : w.ownsRow n₀ 3 1 v xs.length (xs.map (Value.int .i64))) (hn₀ : n₀ ≤ w.heap.size) (hB : n₀ ≤ ga) :
    Calls Yba.prog 8 #[.int .i64 a, .int .i64 x, .pointer (some ⟨ga, 0, none⟩)] w fun e w' => e = .returned (.int .i64 (fz a x)) ∧ Appended n₀ ga v xs x w w' := by
  obtain ⟨i0, hi, hz0, hz1, hz2⟩ := info_parts Yba.info3
  have hc := hv.cell
  unfold fz
  go_enter Yba.func8, Yba.ntmps8
  go_wp2_with (at_builtin; refine wpList_append_own_at _ rfl _ _ 22 rfl n₀ 3 i0 (.int .i64 0) 1 8 Yba.underlying22 hi hz0 hz1 hz2 rfl (by decide) _ _ _ rfl (hrow.alloc _) ⟨w.heap.size, 0, none⟩ 1 1 [.int .i64 x] rfl rfl (cell_one_new _ _ _) (by simp [Value.oneCell']) (by unfold maxLen; omega) (by omega) (by simp; omega) ?_; intro v' w1 hown' hgrow _ hat; obtain ⟨g', cap', rfl⟩ := ownsRow_succ hown'; obtain ⟨hv1, hL⟩ := logged_mk (x := x) hv hrow hn₀ hB (by simpa using hown') hgrow; have hc1 := hv1.cell; have hf1 := hv1.frozen; have HA := (show Hid (Appended n₀ ga v xs x w (w1.setCell ⟨ga, 0, none⟩ (.slice (some ⟨g', 0, none⟩) (xs.length + 1) cap'))) from ⟨_, w1, _, (by simpa using hown'), hgrow, hat, rfl⟩); clear hown' hgrow hat hv1 hc)
  go_ret
  exact ⟨rfl, HA.out⟩
end Go.Proofs.Ybulkdtls
