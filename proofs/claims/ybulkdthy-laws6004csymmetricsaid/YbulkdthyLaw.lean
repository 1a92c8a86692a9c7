import Derived.Test.YbulkdthyBuild
import Derived.ChangeKeysEq
import Derived.Laws.StructEq
namespace Go.Proofs.Ybulkdthy
open Go.RowKit

theorem Yba.fields26 : (Yba.prog.fieldsOf 26).toList.map (fun f => (f.name, f.type, f.offset)) = [("Lo", 22, 0), ("Hi", 22, 1)] := by kernel_rfl
theorem Yba.struct26 : Yba.prog.underlying 26 = some (.struct (Yba.prog.fieldsOf 26)) := by kernel_rfl
theorem Yba.held26 : Yba.prog.stoodInHeld 26 = false := by kernel_rfl
theorem Yba.cells26 : Yba.prog.cellsOf 26 = 2 := by kernel_rfl
theorem Yba.info26 : (Yba.prog.info? 26).map (·.size) = some 2 := by kernel_rfl
theorem Yba.agg26 (w : World) : (isAgg 26).run Yba.prog w = .ok true w := by
  unfold isAgg
  rw [Sem.run_bind, run_underlying Yba.struct26 w]; rfl
theorem Yba.agg22 (w : World) : (isAgg 22).run Yba.prog w = .ok false w := by
  unfold isAgg
  rw [Sem.run_bind, run_underlying Yba.underlying22 w]; rfl

theorem run_part26 (w : World) (xs : Array Value) (o : Nat) : (part 26 xs o).run Yba.prog w = .ok (.agg (xs.extract o (o + 2))) w := by
  have h := Yba.info26
  cases hq : Yba.prog.info? 26 with
  | none => simp [hq] at h
  | some i =>
    have hs : i.size = 2 := by simpa [hq] using h
    simp [part, Sem.run_bind, sizeOf, typeInfo, hq, hs]
theorem run_part22 (w : World) (xs : Array Value) (o : Nat) (v : Value) (h : xs[o]? = some v) : (part 22 xs o).run Yba.prog w = .ok v w := by
  simp [part, Sem.run_bind, h]

theorem run_pair_eq (w : World) (d : Nat) (a b : Int) : (Op.equalIn (d + 2) 26 (.agg #[.int .u64 a, .int .u64 b]) (.agg #[.int .u64 a, .int .u64 b])).run Yba.prog w = .ok true w := by
  rw [run_equalIn_struct w (d + 1) 26 _ _ Yba.struct26 Yba.held26]
  have h := Yba.fields26
  match hf : (Yba.prog.fieldsOf 26).toList with
  | [f, g] =>
    rw [hf] at h
    simp at h
    obtain ⟨⟨h1, h2, h3⟩, h4, h5, h6⟩ := h
    simp [Op.eqFields, h1, h2, h3, h4, h5, h6, Sem.run_bind, run_part22 w _ 0 (.int .u64 a), run_part22 w _ 1 (.int .u64 b), run_equalIn_int w d 22 .u64 .u64 _ _ Yba.underlying22]
  | [] => rw [hf] at h; simp at h
  | [_] => rw [hf] at h; simp at h
  | _ :: _ :: _ :: _ => rw [hf] at h; simp at h

theorem rowV_ext (lo hi : Nat → Int) (k : Nat) (h : k < 11) : (rowV lo hi).extract (k * 2) (k * 2 + 2) = #[.int .u64 (lo k), .int .u64 (hi k)] := by
  match k, h with
  | 0, _ | 1, _ | 2, _ | 3, _ | 4, _ | 5, _ | 6, _ | 7, _ | 8, _ | 9, _ | 10, _ => simp [rowV]

theorem run_items_eq (w : World) (lo hi : Nat → Int) : ∀ is : List Nat, (∀ i ∈ is, i < 11) → (Op.eqItems 9999 26 2 (rowV lo hi) (rowV lo hi) is).run Yba.prog w = .ok true w
  | [], _ => by simp [Op.eqItems]
  | i :: is, h => by
    have hi' := rowV_ext lo hi i (h i (by simp))
    simp only [Op.eqItems, Sem.run_bind, run_part26, Result.andThen_ok, hi', run_pair_eq w 9997 (lo i) (hi i)]
    simpa using run_items_eq w lo hi is (fun j hj => h j (by simp [hj]))

theorem run_row_eq (w : World) (lo hi : Nat → Int) : (Op.equalIn 10000 28 (.agg (rowV lo hi)) (.agg (rowV lo hi))).run Yba.prog w = .ok true w := by
  have h := Yba.info26
  cases hq : Yba.prog.info? 26 with
  | none => simp [hq] at h
  | some i =>
    rw [run_equalIn_array w 9999 _ _ Yba.underlying28 hq, Yba.cells26]
    exact run_items_eq w lo hi _ (by simp)
theorem Yba.guard28 : Yba.prog.eqGuardType Yba.prog.depth 28 = false := by kernel_rfl
theorem run_eql_row (w : World) (lo hi : Nat → Int) : (binOp .eql 28 (.agg (rowV lo hi)) (.agg (rowV lo hi))).run Yba.prog w = .ok (.bool true) w := by
  rw [run_eql_struct w 28, run_row_eq w lo hi]; rfl

theorem heap_alloc4_new (w : World) (A B C D : Obj) : ((((w.alloc A).alloc B).alloc C).alloc D).heap[w.heap.size + 1 + 1 + 1]? = some D := by
  have h := heap_alloc_new (((w.alloc A).alloc B).alloc C) D
  have e : (((w.alloc A).alloc B).alloc C).heap.size = w.heap.size + 1 + 1 + 1 := by
    show (((w.heap.push A).push B).push C).size = _
    simp
  rwa [e] at h

theorem meetTo_symm (bl bh ol oh : Nat → Int) (n : Nat) : meetTo bl bh ol oh n = meetTo ol oh bl bh n := by
  unfold meetTo
  congr 1
  funext j
  exact Bool.and_comm _ _
theorem keep {B k : Nat} {w w' : World} {X : Obj} (hb : Below B w w') (hk : k < B) (h : w.heap[k]? = some X) : w'.heap[k]? = some X := (hb.block k hk).trans h

theorem wpList_store_fresh {P : Program} {ops : Array Oper} {rest : List Oper} {o : Oper} {a : Act} {w1 : World} {t : TypeId} {old : Array Value} {Q : Exit → Act → World → Prop} (hgd : o.guard = none) (ty : TypeId) (x y : Operand) (ho : o.op = .store ty x y)
    {cells : Array Value} (hx : a.eval x = .pointer (some ⟨w1.heap.size, 0, none⟩)) (hy : a.eval y = .agg cells) (hi : (P.info? ty).map (·.size) = some cells.size)
    (hold : old.size = cells.size) (h1 : cells.all (·.oneCell') = true)
    (h : ∀ W2 : World, W2.heap[w1.heap.size]? = some (.cells cells t) → Below w1.heap.size w1 W2 → w1.heap.size < W2.heap.size → wpList P ops Q rest (a.put o.dst undef) W2) :
    wpList P ops Q (o :: rest) a (w1.alloc (.cells old t)) := by
  refine wpList_store_row hgd ty x y ho w1.heap.size cells hx hy t old (Go.heap_alloc_new _ _) hi hold h1 (h _ (setRow_heap _ _ _ _ _ _ (Go.heap_alloc_new _ _)) ?_ ?_)
  · exact below_setRow ((Below.refl _ _).alloc (Nat.le_refl _) _) (Nat.le_refl _) _
  · simp

theorem wpList_load_row_g {P : Program} {ops : Array Oper} {rest : List Oper} {o : Oper} {a : Act} {w : World} {Q : Exit → Act → World → Prop} (hw : Region.wanted o (yielded ops a.tmps) = true) (ty : TypeId) (x : Operand) (ho : o.op = .load ty x)
    (g : Nat) (hx : a.eval x = .pointer (some ⟨g, 0, none⟩)) (t : TypeId) (cs : Array Value) (fr : Nat × Nat) (d : TypeDesc) (hg : w.heap[g]? = some (.cells cs t fr))
    (hu : P.underlying ty = some d) (hd : (match d with | .struct _ | .array _ _ => true | _ => false) = true) (hi : (P.info? ty).map (·.size) = some cs.size)
    (h : wpList P ops Q rest (a.put o.dst (.agg cs)) w) : wpList P ops Q (o :: rest) a w :=
  BigFrame.wpList_want hw fun _ hK => wp_load_row ty x ho g hx t cs fr d hg hu hd hi (hK _ _ h)

def nlo (x : Nat → Int) : Nat → Int := fun j => x j % 2
def nhi (x y : Nat → Int) : Nat → Int := fun j => x j % 2 + 1 + y j % 4

set_option maxHeartbeats 4000000 in
theorem law_walk (xl xh yl yh : Nat → Int) (hx : ∀ j, 0 ≤ xl j) (hx' : ∀ j, 0 ≤ xh j) (hy : ∀ j, 0 ≤ yl j) (hy' : ∀ j, 0 ≤ yh j) (w : World) :
    Calls Yba.prog 4 #[.agg (rowV xl xh), .agg (rowV yl yh)] w fun e w' => e = .returned (.bool true) ∧ Below w.heap.size w w' := by
  go_enter Yba.func4, Yba.ntmps4
  go_wp2
  go_loopw [7] (fun i wr => ∃ k : Nat, k ≤ 11 ∧ i = .int .i64 k ∧ wr.heap.size = w.heap.size + 1 + 1 + 1 + 1 ∧ wr.heap[w.heap.size]? = some (.cells (rowV xl xh) 25) ∧ wr.heap[w.heap.size + 1]? = some (.cells (rowV yl yh) 25)
      ∧ wr.heap[w.heap.size + 1 + 1]? = some (.cells (rowV (upTo (nlo xl) k) (upTo (nhi xl xh) k)) 25) ∧ wr.heap[w.heap.size + 1 + 1 + 1]? = some (.cells (rowV (upTo (nlo yl) k) (upTo (nhi yl yh) k)) 25) ∧ Below w.heap.size w wr) (fun i _ => 11 - (intOf i).toNat)
  case atStart =>
    refine ⟨0, by omega, rfl, by simp, ?_, ?_, ?_, ?_, ((((Below.refl _ _).alloc (Nat.le_refl _) _).alloc (by simp) _).alloc (by simp; omega) _).alloc (by simp; omega) _⟩
    · rw [Go.heap_alloc_old _ _ (by simp; omega), Go.heap_alloc_old _ _ (by simp; omega)]; exact heap_alloc2_old _ _ _
    · rw [Go.heap_alloc_old _ _ (by simp), Go.heap_alloc_old _ _ (by simp)]; exact heap_alloc2_new _ _ _
    · rw [Go.heap_alloc_old _ _ (by simp), upTo_zero, upTo_zero]; exact heap_alloc3_new _ _ _ _
    · rw [upTo_zero, upTo_zero]; exact heap_alloc4_new _ _ _ _ _
  case round =>
    obtain ⟨k, hk, rfl, hsz, e1, e2, e3, e4, hb⟩ := hrel
    by_cases hlt : k < 11
    · have d1 := cell_lo e1 k hlt
      have d2 := cell_hi e1 k hlt
      have d3 := cell_lo e2 k hlt
      have d4 := cell_hi e2 k hlt
      have d5 := cell_lo e3 k hlt
      have d6 := cell_hi e3 k hlt
      have d7 := cell_lo e4 k hlt
      have d8 := cell_hi e4 k hlt
      have f5 := frozen_of_row wr _ (k * 2) _ _ e3
      have f6 := frozen_of_row wr _ (k * 2 + 1) _ _ e3
      have f7 := frozen_of_row wr _ (k * 2) _ _ e4
      have f8 := frozen_of_row wr _ (k * 2 + 1) _ _ e4
      have E1 := (show Hid _ from e1)
      have E2 := (show Hid _ from e2)
      have E3 := (show Hid _ from e3)
      have E4 := (show Hid _ from e4)
      have HS := (show Hid _ from hsz)
      clear e1 e2 e3 e4 hsz
      have hlt' : (k : Int) < 11 := by omega
      have b1 := hx k
      have b2 := hx' k
      have b3 := hy k
      have b4 := hy' k
      clear hx hx' hy hy'
      go_wp2
      go_roundw
      case rel =>
        refine ⟨k + 1, by omega, by go_num, ?_, ?_, ?_, ?_, ?_, ?_⟩
        · simpa using HS.out
        · rw [heap_setCell_other _ _ _ _ (by simp; omega), heap_setCell_other _ _ _ _ (by simp; omega), heap_setCell_other _ _ _ _ (by simp; omega), heap_setCell_other _ _ _ _ (by simp; omega)]; exact E1.out
        · rw [heap_setCell_other _ _ _ _ (by simp), heap_setCell_other _ _ _ _ (by simp), heap_setCell_other _ _ _ _ (by simp), heap_setCell_other _ _ _ _ (by simp)]; exact E2.out
        · rw [heap_setCell_other _ _ _ _ (by simp), heap_setCell_other _ _ _ _ (by simp), rowV_upTo_succ _ _ k hlt]
          exact heap_setCell_same _ _ _ _ _ _ (heap_setCell_same _ _ _ _ _ _ E3.out)
        · rw [rowV_upTo_succ _ _ k hlt]
          refine heap_setCell_same _ _ _ _ _ _ (heap_setCell_same _ _ _ _ _ _ ?_)
          rw [heap_setCell_other _ _ _ _ (by simp), heap_setCell_other _ _ _ _ (by simp)]; exact E4.out
        · exact (((hb.setCell (by simp; omega) _).setCell (by simp; omega) _).setCell (by simp; omega) _).setCell (by simp; omega) _
      case measure => simp [intOf]; omega
    · obtain rfl : k = 11 := by omega
      rw [rowV_upTo_all] at e3 e4
      clear hx hx' hy hy' e1 e2
      generalize nlo xl = bl at *
      generalize nhi xl xh = bh at *
      generalize nlo yl = ol at *
      generalize nhi yl yh = oh at *
      have hsz' : w.heap.size + 1 + 1 + 1 < wr.heap.size := by omega
      clear hsz
      go_wp2_with (refine wpList_load_row rfl 25 _ rfl (w.heap.size + 1 + 1) rfl 25 _ (0, 0) _ e3 Yba.underlying25 rfl Yba.size25 ?_)
      refine (build_any bl bh _).mono ?_
      rintro e w1 ⟨rfl, hb1⟩
      have z1 : w.heap.size + 1 + 1 + 1 < w1.heap.size := Nat.lt_of_lt_of_le hsz' hb1.size
      replace e3 := keep hb1 (by omega) e3
      replace e4 := keep hb1 (by omega) e4
      replace hb := hb.trans (hb1.mono (by omega))
      clear hb1 hsz'
      go_wp2_with (first
        | (refine wpList_store_fresh rfl 28 _ _ rfl rfl rfl Yba.size28 rfl (rowV_one _ _) ?_; intro W2 q1 q2 q3; replace e3 := keep q2 (by omega) e3; replace e4 := keep q2 (by omega) e4; replace hb := hb.trans (q2.mono (by omega)); clear q2)
        | (refine wpList_load_row rfl 25 _ rfl (w.heap.size + 1 + 1 + 1) rfl 25 _ (0, 0) _ e4 Yba.underlying25 rfl Yba.size25 ?_))
      refine (build_any ol oh _).mono ?_
      rintro e w3 ⟨rfl, hb3⟩
      have z3 : w1.heap.size < w3.heap.size := Nat.lt_of_lt_of_le q3 hb3.size
      replace e3 := keep hb3 (by omega) e3
      replace e4 := keep hb3 (by omega) e4
      replace q1 := keep hb3 (by omega) q1
      replace hb := hb.trans (hb3.mono (by omega))
      clear hb3 q3
      go_wp2_with (first
        | (refine wpList_store_fresh rfl 28 (.tmp 11) (.tmp 58) rfl rfl rfl Yba.size28 rfl (rowV_one _ _) ?_; intro W4 r1 r2 r3; replace e3 := keep r2 (by omega) e3; replace e4 := keep r2 (by omega) e4; replace q1 := keep r2 (by omega) q1; replace hb := hb.trans (r2.mono (by omega)); clear r2)
        | (refine wpList_load_row rfl 28 (.tmp 10) rfl w1.heap.size rfl 28 _ (0, 0) _ q1 Yba.underlying28 rfl Yba.size28 ?_)
        | (refine wpList_store_fresh rfl 28 (.tmp 12) (.tmp 59) rfl rfl rfl Yba.size28 rfl (rowV_one _ _) ?_; intro W5 s1 s2 s3; replace e3 := keep s2 (by omega) e3; replace e4 := keep s2 (by omega) e4; replace q1 := keep s2 (by omega) q1; replace r1 := keep s2 (by omega) r1; replace hb := hb.trans (s2.mono (by omega)); clear s2)
        | (refine wpList_load_row rfl 28 (.tmp 11) rfl w3.heap.size rfl 28 _ (0, 0) _ r1 Yba.underlying28 rfl Yba.size28 ?_)
        | (refine wpList_store_fresh rfl 28 (.tmp 13) (.tmp 60) rfl rfl rfl Yba.size28 rfl (rowV_one _ _) ?_; intro W6 t1 t2 t3; replace e3 := keep t2 (by omega) e3; replace e4 := keep t2 (by omega) e4; replace q1 := keep t2 (by omega) q1; replace r1 := keep t2 (by omega) r1; replace s1 := keep t2 (by omega) s1; replace hb := hb.trans (t2.mono (by omega)); clear t2))
      refine (meet_any w1.heap.size w3.heap.size bl bh ol oh _ (cell_lo q1) (cell_hi q1) (cell_lo r1) (cell_hi r1)).mono ?_
      rintro e _ ⟨rfl, n1, rfl⟩
      go_wp2_with fail
      refine (meet_any w3.heap.size w1.heap.size ol oh bl bh (W6.drewN n1) (cell_lo r1) (cell_hi r1) (cell_lo q1) (cell_hi q1)).mono ?_
      rintro e _ ⟨rfl, n2, rfl⟩
      rw [meetTo_symm ol oh bl bh]
      go_wp2_with (first
        | (refine wpList_load_row rfl 25 (.tmp 5) rfl (w.heap.size + 1 + 1) rfl 25 (rowV bl bh) (0, 0) _ e3 Yba.underlying25 rfl Yba.size25 ?_)
        | (refine wpList_load_row rfl 25 (.tmp 6) rfl (w.heap.size + 1 + 1 + 1) rfl 25 (rowV ol oh) (0, 0) _ e4 Yba.underlying25 rfl Yba.size25 ?_))
      refine (model_any bl bh ol oh _).mono ?_
      rintro e w7 ⟨rfl, hb7⟩
      have hsz7 : W6.heap.size ≤ w7.heap.size := hb7.size
      replace q1 := keep hb7 (by simp; omega) q1
      replace r1 := keep hb7 (by simp; omega) r1
      replace s1 := keep hb7 (by simp; omega) s1
      replace t1 := keep hb7 (by simp; omega) t1
      have hb7' : Below w.heap.size ((W6.drewN n1).drewN n2) w7 := by simpa using hb7.mono (by simp; omega)
      replace hb := (below_drewN (below_drewN hb n1) n2).trans hb7'
      clear hb7 hb7' e3 e4
      generalize meetTo bl bh ol oh 11 = b
      have E1 := run_row_eq w7 bl bh
      have E2 := run_row_eq w7 ol oh
      have G1 := Yba.guard28
      go_wp2_with (first
        | (refine wpList_load_row_g rfl 28 (.tmp 10) rfl w1.heap.size rfl 28 (rowV bl bh) (0, 0) _ q1 Yba.underlying28 rfl Yba.size28 ?_)
        | (refine wpList_load_row_g rfl 28 (.tmp 12) rfl _ rfl 28 (rowV bl bh) (0, 0) _ s1 Yba.underlying28 rfl Yba.size28 ?_)
        | (refine wpList_load_row_g rfl 28 (.tmp 11) rfl w3.heap.size rfl 28 (rowV ol oh) (0, 0) _ r1 Yba.underlying28 rfl Yba.size28 ?_)
        | (refine wpList_load_row_g rfl 28 (.tmp 13) rfl _ rfl 28 (rowV ol oh) (0, 0) _ t1 Yba.underlying28 rfl Yba.size28 ?_))
      go_ret
      exact ⟨rfl, hb⟩
end Go.Proofs.Ybulkdthy
