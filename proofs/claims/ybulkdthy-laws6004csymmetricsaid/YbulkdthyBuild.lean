import Derived.Test.YbulkdthyMeet
import Derived.RegionTactic
import Derived.Laws.Rows
namespace Go.Proofs.Ybulkdthy
open Go.RowKit

def rowV (lo hi : Nat → Int) : Array Value := #[.int .u64 (lo 0), .int .u64 (hi 0), .int .u64 (lo 1), .int .u64 (hi 1), .int .u64 (lo 2), .int .u64 (hi 2), .int .u64 (lo 3), .int .u64 (hi 3), .int .u64 (lo 4), .int .u64 (hi 4), .int .u64 (lo 5), .int .u64 (hi 5), .int .u64 (lo 6), .int .u64 (hi 6), .int .u64 (lo 7), .int .u64 (hi 7), .int .u64 (lo 8), .int .u64 (hi 8), .int .u64 (lo 9), .int .u64 (hi 9), .int .u64 (lo 10), .int .u64 (hi 10)]
def upTo (f : Nat → Int) (k : Nat) : Nat → Int := fun j => if j < k then f j else 0

theorem rowV_lo (lo hi : Nat → Int) (k : Nat) (h : k < 11) : (rowV lo hi)[k * 2]? = some (.int .u64 (lo k)) := by
  match k, h with
  | 0, _ | 1, _ | 2, _ | 3, _ | 4, _ | 5, _ | 6, _ | 7, _ | 8, _ | 9, _ | 10, _ => rfl
theorem rowV_hi (lo hi : Nat → Int) (k : Nat) (h : k < 11) : (rowV lo hi)[k * 2 + 1]? = some (.int .u64 (hi k)) := by
  match k, h with
  | 0, _ | 1, _ | 2, _ | 3, _ | 4, _ | 5, _ | 6, _ | 7, _ | 8, _ | 9, _ | 10, _ => rfl
theorem cell_lo {w : World} {g : Nat} {lo hi : Nat → Int} {t : TypeId} {fr : Nat × Nat} (h : w.heap[g]? = some (.cells (rowV lo hi) t fr)) (k : Nat) (hk : k < 11) : w.cell? ⟨g, k * 2, none⟩ = some (.int .u64 (lo k)) := by
  rw [cell_of_row w g _ _ t fr h, rowV_lo lo hi k hk]
theorem cell_hi {w : World} {g : Nat} {lo hi : Nat → Int} {t : TypeId} {fr : Nat × Nat} (h : w.heap[g]? = some (.cells (rowV lo hi) t fr)) (k : Nat) (hk : k < 11) : w.cell? ⟨g, k * 2 + 1, none⟩ = some (.int .u64 (hi k)) := by
  rw [cell_of_row w g _ _ t fr h, rowV_hi lo hi k hk]
theorem upTo_zero (f : Nat → Int) : upTo f 0 = fun _ => 0 := by funext j; simp [upTo]
theorem rowV_upTo_succ (lo hi : Nat → Int) (k : Nat) (h : k < 11) : rowV (upTo lo (k + 1)) (upTo hi (k + 1)) = ((rowV (upTo lo k) (upTo hi k)).setIfInBounds (k * 2) (.int .u64 (lo k))).setIfInBounds (k * 2 + 1) (.int .u64 (hi k)) := by
  match k, h with
  | 0, _ | 1, _ | 2, _ | 3, _ | 4, _ | 5, _ | 6, _ | 7, _ | 8, _ | 9, _ | 10, _ => simp [rowV, upTo]
theorem rowV_upTo_all (lo hi : Nat → Int) : rowV (upTo lo 11) (upTo hi 11) = rowV lo hi := by simp [rowV, upTo]
theorem rowV_size (lo hi : Nat → Int) : (rowV lo hi).size = 22 := rfl

theorem heap_alloc3_new (w : World) (A B C : Obj) : (((w.alloc A).alloc B).alloc C).heap[w.heap.size + 1 + 1]? = some C := by
  have h := heap_alloc_new ((w.alloc A).alloc B) C
  have e : ((w.alloc A).alloc B).heap.size = w.heap.size + 1 + 1 := by
    show ((w.heap.push A).push B).size = _
    simp
  rwa [e] at h

theorem below_setRow {B g : Nat} {a w : World} (h : Below B a w) (hg : B ≤ g) (cs : Array Value) : Below B a (w.setRow g cs) := h.trans ⟨rfl, rfl, rfl, by simp, fun k hk => setRow_other w g k cs (by omega)⟩
theorem rowV_one (lo hi : Nat → Int) : (rowV lo hi).all (·.oneCell') = true := by simp [rowV, Value.oneCell']
theorem Yba.size28 : (Yba.prog.info? 28).map (·.size) = some 22 := by kernel_rfl
theorem Yba.size25 : (Yba.prog.info? 25).map (·.size) = some 22 := by kernel_rfl

set_option maxHeartbeats 400000 in
theorem model_any (bl bh ol oh : Nat → Int) (w : World) :
    Calls Yba.prog 7 #[.agg (rowV bl bh), .agg (rowV ol oh)] w fun e w' => e = .returned (.bool (meetTo bl bh ol oh 11)) ∧ Below w.heap.size w w' := by
  go_enter Yba.func7, Yba.ntmps7
  go_wp2
  go_loopw [5, 6] (fun b i wr => ∃ k : Nat, k ≤ 11 ∧ i = .int .i64 k ∧ b = .bool (meetTo bl bh ol oh k) ∧ wr.heap[w.heap.size]? = some (.cells (rowV bl bh) 25) ∧ wr.heap[w.heap.size + 1]? = some (.cells (rowV ol oh) 25) ∧ Below w.heap.size w wr) (fun _ i _ => 11 - (intOf i).toNat)
  case atStart => exact ⟨0, by omega, rfl, rfl, heap_alloc2_old _ _ _, heap_alloc2_new _ _ _, ((Below.refl _ _).alloc (Nat.le_refl _) _).alloc (by simp) _⟩
  case round =>
    obtain ⟨k, hk, rfl, rfl, e1, e2, hb⟩ := hrel
    by_cases hlt : k < 11
    · have hs := meetTo_succ bl bh ol oh k
      have HS : Hid (meetTo bl bh ol oh (k + 1) = (meetTo bl bh ol oh k && okAt bl bh ol oh k)) := hs
      clear hs
      have d1 := cell_lo e1 k hlt
      have d2 := cell_hi e1 k hlt
      have d3 := cell_lo e2 k hlt
      have d4 := cell_hi e2 k hlt
      have E1 : Hid (wr.heap[w.heap.size]? = some (.cells (rowV bl bh) 25)) := e1
      have E2 : Hid (wr.heap[w.heap.size + 1]? = some (.cells (rowV ol oh) 25)) := e2
      clear e1 e2
      have hlt' : (k : Int) < 11 := by omega
      by_cases t1 : bl k < oh k
      · by_cases t2 : ol k < bh k
        · have HF : Hid (okAt bl bh ol oh k = true) := by simp [Hid, okAt, t1, t2]
          go_wp2
          go_quiet (fail)
          go_wp2
          go_roundw
          case rel => exact ⟨k + 1, by omega, by go_num, by rw [HS.out, HF.out]; simp, E1.out, E2.out, below_drewN hb _⟩
          case measure => simp [intOf]; omega
        · have HF : Hid (okAt bl bh ol oh k = false) := by simp [Hid, okAt, t2]
          have t2' : decide (ol k < bh k) = false := by simpa using t2
          go_wp2
          go_quiet (fail)
          go_wp2
          go_roundw
          case rel => exact ⟨k + 1, by omega, by go_num, by rw [HS.out, HF.out]; simp, E1.out, E2.out, below_drewN hb _⟩
          case measure => simp [intOf]; omega
      · have HF : Hid (okAt bl bh ol oh k = false) := by simp [Hid, okAt, t1]
        have t1' : decide (bl k < oh k) = false := by simpa using t1
        go_wp2
        go_quiet (fail)
        go_wp2
        go_roundw
        case rel => exact ⟨k + 1, by omega, by go_num, by rw [HS.out, HF.out]; simp, E1.out, E2.out, below_drewN hb _⟩
        case measure => simp [intOf]; omega
    · obtain rfl : k = 11 := by omega
      go_wp2
      go_ret
      exact ⟨rfl, hb⟩

set_option maxHeartbeats 400000 in
theorem build_any (lo hi : Nat → Int) (w : World) :
    Calls Yba.prog 5 #[.agg (rowV lo hi)] w fun e w' => e = .returned (.agg (rowV lo hi)) ∧ Below w.heap.size w w' := by
  go_enter Yba.func5, Yba.ntmps5
  go_wp2
  go_loopw [4] (fun i wr => ∃ k : Nat, k ≤ 11 ∧ i = .int .i64 k ∧ wr.heap[w.heap.size]? = some (.cells (rowV lo hi) 25) ∧ wr.heap[w.heap.size + 1]? = some (.cells (rowV (fun _ => 0) (fun _ => 0)) 28)
      ∧ wr.heap[w.heap.size + 1 + 1]? = some (.cells (rowV (upTo lo k) (upTo hi k)) 28) ∧ Below w.heap.size w wr) (fun i _ => 11 - (intOf i).toNat)
  case atStart =>
    have u1 := upTo_zero lo
    have u2 := upTo_zero hi
    refine ⟨0, by omega, rfl, ?_, ?_, ?_, (((Below.refl _ _).alloc (Nat.le_refl _) _).alloc (by simp) _).alloc (by simp; omega) _⟩
    · rw [Go.heap_alloc_old _ _ (by simp; omega)]; exact heap_alloc2_old _ _ _
    · rw [Go.heap_alloc_old _ _ (by simp)]; exact heap_alloc2_new _ _ _
    · rw [u1, u2]; exact heap_alloc3_new _ _ _ _
  case round =>
    obtain ⟨k, hk, rfl, e1, e2, e3, hb⟩ := hrel
    by_cases hlt : k < 11
    · have d1 := cell_lo e1 k hlt
      have d2 := cell_hi e1 k hlt
      have d3 := cell_lo e3 k hlt
      have d4 := cell_hi e3 k hlt
      have f3 := frozen_of_row wr _ (k * 2) _ _ e3
      have f4 := frozen_of_row wr _ (k * 2 + 1) _ _ e3
      have E1 : Hid (wr.heap[w.heap.size]? = some (.cells (rowV lo hi) 25)) := e1
      have E2 : Hid (wr.heap[w.heap.size + 1]? = some (.cells (rowV (fun _ => 0) (fun _ => 0)) 28)) := e2
      have E3 : Hid (wr.heap[w.heap.size + 1 + 1]? = some (.cells (rowV (upTo lo k) (upTo hi k)) 28)) := e3
      clear e1 e2 e3
      have hlt' : (k : Int) < 11 := by omega
      go_wp2
      go_region
      go_wp2
      go_roundw
      case rel =>
        refine ⟨k + 1, by omega, by go_num, ?_, ?_, ?_, ?_⟩
        · show (World.setCell _ _ _).heap[_]? = _
          rw [heap_setCell_other _ _ _ _ (by simp; omega), heap_setCell_other _ _ _ _ (by simp; omega)]; exact E1.out
        · show (World.setCell _ _ _).heap[_]? = _
          rw [heap_setCell_other _ _ _ _ (by simp), heap_setCell_other _ _ _ _ (by simp)]; exact E2.out
        · rw [rowV_upTo_succ lo hi k hlt]
          exact heap_setCell_same _ _ _ _ _ _ (heap_setCell_same _ _ _ _ _ _ E3.out)
        · exact ((hb.setCell (by simp; omega) _).setCell (by simp; omega) _).drew
      case measure => simp [intOf]; omega
    · obtain rfl : k = 11 := by omega
      rw [rowV_upTo_all] at e3
      go_wp2_with (first
        | (refine wpList_load_row rfl 28 _ rfl (w.heap.size + 1 + 1) rfl 28 (rowV lo hi) (0, 0) _ e3 Yba.underlying28 rfl Yba.size28 ?_)
        | (refine wpList_store_row rfl 28 _ _ rfl (w.heap.size + 1) (rowV lo hi) rfl rfl 28 _ e2 Yba.size28 rfl (rowV_one _ _) ?_))
      exact bodyPost_ret (v := .agg (rowV lo hi)) (results_cell_row Yba.results5 _ _ (w.heap.size + 1) 28 (rowV lo hi) (0, 0) _ rfl (setRow_heap _ _ _ _ _ _ e2) Yba.underlying28 rfl Yba.size28) rfl ⟨rfl, below_setRow hb (by omega) _⟩
end Go.Proofs.Ybulkdthy
