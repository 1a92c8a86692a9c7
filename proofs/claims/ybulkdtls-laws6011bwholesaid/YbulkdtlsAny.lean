import Derived.Test.YbulkdtlsSeqB
namespace Go.Proofs.Ybulkdtls
open Go.RowKit Go.Shelf
attribute [local go_sem] Oper.semAt_some

section
variable {w0 W W' : World} {gy gs gc gp gq : Nat} {fv : Value} {zs : Nat → Int} {y : Int} {st : Bool} {c : Nat} {res : Bool}
/-- The test was called once more. -/
theorem SB.logged (h : SB w0 gy gs gc gp gq fv zs W y st c res) (l1 : gy < gs) (l2 : gs < gc) (l3 : gc < gp) (l4 : gp < gq) (hL : Logged gc gc c (ints zs c) (zs c) W W') : SB w0 gy gs gc gp gq fv zs W' y st (c + 1) res := by
  obtain ⟨h1, h2, h3, _, h5, h6⟩ := h
  obtain ⟨⟨v', a, b⟩, _, hb, hk⟩ := hL
  exact ⟨h1.trans (hb.mono (by omega)), (hb.block gy (by omega)).trans h2, (hb.block gs (by omega)).trans h3, ⟨v', a, by rw [ints_succ]; exact b⟩, hk gp 24 fv (by decide) (by omega) h5, hk gq 4 _ (by decide) (by omega) h6⟩
/-- Any's result is laid. -/
theorem SB.result (h : SB w0 gy gs gc gp gq fv zs W y st c res) (l1 : gy < gs) (l2 : gs < gc) (l3 : gc < gp) (l4 : gp < gq) (res' : Bool) : SB w0 gy gs gc gp gq fv zs (W.setCell ⟨gq, 0, none⟩ (.bool res')) y st c res' := by
  obtain ⟨h1, h2, h3, ⟨v, h4, h4'⟩, h5, h6⟩ := h
  exact ⟨h1.setCell (by show gy ≤ gq; omega) _, h2.other (by omega) _, h3.other (by omega) _, ⟨v, h4.other (by omega) _, h4'.kept (grownBy_setCell' _ _ _) (.inr (h6.not_row (by decide) h4').symm)⟩, h5.other (by omega) _, h6.set _⟩
end

set_option maxRecDepth 100000 in
set_option maxHeartbeats 2000000 in
theorem any_B (w : World) (gx gm gr gy gs gc b off len cap : Nat) (sl : Option Addr) (zs : Nat → Int) (m r : Int) (h1 : 1 ≤ m) (h2 : m ≤ 7) (l0 : gx < gy) (lm : gm < gy) (lr : gr < gy) (l1 : gy < gs) (l2 : gs < gc) (hgc : gc < w.heap.size) (hlen : len ≤ 1048576)
    (cx : w.cell? ⟨gx, 0, none⟩ = some (.slice sl len cap)) (hsl : 0 < len → sl = some ⟨b, off, none⟩) (hb : 0 < len → b < gy) (ce : ∀ j, j < len → w.cell? ⟨b, off + j, none⟩ = some (.int .i64 (zs j)))
    (cm : w.cell? ⟨gm, 0, none⟩ = some (.int .i64 m)) (cr : w.cell? ⟨gr, 0, none⟩ = some (.int .i64 r)) (by_ : Boxed w gy 3 (.int .i64 0)) (bs : Boxed w gs 4 (.bool false)) (bc : Boxed w gc 22 (.slice none 0 0)) :
    Calls Yba.prog 14 #[.func (.func 11) #[] #[.pointer (some ⟨gx, 0, none⟩), .pointer (some ⟨gy, 0, none⟩), .pointer (some ⟨gs, 0, none⟩)], .func (.func 12) #[] #[.pointer (some ⟨gc, 0, none⟩), .pointer (some ⟨gm, 0, none⟩), .pointer (some ⟨gr, 0, none⟩)]] w
      fun e W' => ∃ gp gq fv, (e = .returned (.bool false) ∧ (∀ j, j < len → pz m r (zs j) = false) ∧ SB w gy gs gc gp gq fv zs W' len false len false) ∨
        ∃ k, k < len ∧ e = .returned (.bool true) ∧ (∀ j, j < k → pz m r (zs j) = false) ∧ pz m r (zs k) = true ∧ SB w gy gs gc gp gq fv zs W' ((k : Int) + 1) true (k + 1) true := by
  refine (callsIn_wide (n := 5)).1 ?_
  refine callsIn_of_wp_marks Yba.func14 rfl trivial ?_ rfl
  simp only [Yba.ntmps14, List.size_toArray, List.length_cons, List.length_nil, Nat.reduceAdd, Nat.reduceSub, Array.replicate_succ, Array.replicate_zero, List.push_toArray, List.append_toArray, List.nil_append, List.cons_append]
  gi_wp2
  have hw : gy ≤ w.heap.size := by omega
  have hD : gy ≤ ((w.alloc (.cells #[.func (.func 12) #[] #[.pointer (some ⟨gc, 0, none⟩), .pointer (some ⟨gm, 0, none⟩), .pointer (some ⟨gr, 0, none⟩)]] 24)).alloc (.cells #[.bool false] 4)).heap.size := by simp; omega
  have S0 : SB w gy gs gc w.heap.size (w.heap.size + 1) (.func (.func 12) #[] #[.pointer (some ⟨gc, 0, none⟩), .pointer (some ⟨gm, 0, none⟩), .pointer (some ⟨gr, 0, none⟩)]) zs
      ((w.alloc (.cells #[.func (.func 12) #[] #[.pointer (some ⟨gc, 0, none⟩), .pointer (some ⟨gm, 0, none⟩), .pointer (some ⟨gr, 0, none⟩)]] 24)).alloc (.cells #[.bool false] 4)) 0 false 0 false := by
    refine ⟨((Below.refl _ _).alloc (by omega) _).alloc (by simp; omega) _, (by_.alloc _).alloc _, (bs.alloc _).alloc _, ⟨_, (bc.alloc _).alloc _, World.ownsRow_nil _ _ _ _⟩, (Boxed.new w 24 _).alloc _, ?_⟩
    have := Boxed.new (w.alloc (.cells #[.func (.func 12) #[] #[.pointer (some ⟨gc, 0, none⟩), .pointer (some ⟨gm, 0, none⟩), .pointer (some ⟨gr, 0, none⟩)]] 24)) 4 (.bool false)
    rwa [World.size_alloc] at this
  refine range_law rfl (by omega) (gf := 11) (lb := #[.pointer (some ⟨gx, 0, none⟩), .pointer (some ⟨gy, 0, none⟩), .pointer (some ⟨gs, 0, none⟩)]) rfl trivial (enters_of Yba.func11 (by kernel_rfl) rfl)
    (iterB Fence.wide (5 - 1) trivial rfl (by omega) w gx gy gs gc w.heap.size (w.heap.size + 1) b off len cap sl (.func (.func 12) #[] #[.pointer (some ⟨gc, 0, none⟩), .pointer (some ⟨gm, 0, none⟩), .pointer (some ⟨gr, 0, none⟩)]) zs m r l0 l1 l2 hgc (by omega) hlen cx hsl hb ce) (fun _ => rfl)
    (fun x s A B row hs hg hr => ⟨hs.1, hs.2.1, hs.2.2.1, hs.2.2.2.grown hw hD hg hr⟩)
    (fun s A B row hs hg hr => by obtain ⟨k, e, p, S⟩ := hs; exact ⟨k, e, p, S.grown hw hD hg hr⟩)
    (fun c s A B row hs hg hr => by obtain ⟨e0, k, hk, e, p, q, S⟩ := hs; exact ⟨e0, k, hk, e, p, q, S.grown hw hD hg hr⟩)
    (fun s A B row hs hg hr => by obtain ⟨⟨k, e, p, S⟩, e'⟩ := hs; exact ⟨⟨k, e, p, S.grown hw hD hg hr⟩, e'⟩)
    (fun c s A B row hs hg hr => by obtain ⟨e0, k, hk, e, p, q, S⟩ := hs; exact ⟨e0, k, hk, e, p, q, S.grown hw hD hg hr⟩)
    ⟨0, rfl, fun j h => absurd h (by omega), S0⟩
    (fun x => { tmps := #[.func (.func 11) #[] #[.pointer (some ⟨gx, 0, none⟩), .pointer (some ⟨gy, 0, none⟩), .pointer (some ⟨gs, 0, none⟩)], .func (.func 12) #[] #[.pointer (some ⟨gc, 0, none⟩), .pointer (some ⟨gm, 0, none⟩), .pointer (some ⟨gr, 0, none⟩)], undef, .pointer (some ⟨w.heap.size, 0, none⟩), .pointer (some ⟨w.heap.size + 1, 0, none⟩), .int .i64 (zs x), .func (.func 11) #[] #[.pointer (some ⟨gx, 0, none⟩), .pointer (some ⟨gy, 0, none⟩), .pointer (some ⟨gs, 0, none⟩)], .int .i64 (zs x), undef, undef, undef], defers := [] }) ?assign ?body ?done ?stop
  case assign =>
    intro l x W K hK
    gi_wp2
    exact hK
  case body =>
    rintro l pre x W ⟨rfl, hx, hp, S⟩
    obtain ⟨v, bv, rv⟩ := S.bc
    have kp := S.bp.cell
    have km := (S.bel.cell (p := ⟨gm, 0, none⟩) lm).trans cm
    have kr := (S.bel.cell (p := ⟨gr, 0, none⟩) lr).trans cr
    have ksz : gc ≤ W.heap.size := Nat.le_of_lt bv.lt
    have HP := (show Hid _ from hp)
    have HS := (show Hid _ from S)
    clear hp S S0 by_ bs bc cx ce hsl hb cm cr
    cases hz : pz m r (zs x) with
    | true =>
      gi_wp2_with (refine ⟨trivial, ?_⟩; gi_at_call 12; refine (CallsIn.inRound l (callsIn_wide.2 (pred_any gc gc gm gr x (ints zs x) m r (zs x) v _ h1 h2 (by omega) bv rv ksz (Nat.le_refl _) km kr (by omega) (by omega)))).mono ?_; rintro e w' ⟨rfl, hL⟩; have S2 := SB.logged HS.out l1 l2 hgc (by omega) hL; have kq := S2.bq.cell; have kf := S2.bq.frozen)
      exact ⟨(hL.2.1.trans (KeepsOthers.setCell _ _ _)).from _, rfl, x, hx, by rw [List.range_succ], HP.out, hz, S2.result l1 l2 hgc (by omega) true⟩
    | false =>
      gi_wp2_with (refine ⟨trivial, ?_⟩; gi_at_call 12; refine (CallsIn.inRound l (callsIn_wide.2 (pred_any gc gc gm gr x (ints zs x) m r (zs x) v _ h1 h2 (by omega) bv rv ksz (Nat.le_refl _) km kr (by omega) (by omega)))).mono ?_; rintro e w' ⟨rfl, hL⟩)
      have S2 := SB.logged HS.out l1 l2 hgc (by omega) hL
      refine ⟨hL.2.1.from _, x + 1, by rw [List.range_succ], fun j hj => ?_, by simpa using S2⟩
      rcases Nat.lt_or_ge j x with h | h
      · exact HP.out j h
      · obtain rfl : j = x := by omega
        exact hz
  case done =>
    rintro D ys W hD' ⟨⟨k, e, p, S⟩, e'⟩ hK
    obtain rfl : k = len := by
      have := congrArg List.length (e.symm.trans e')
      simpa using this
    have kq := S.bq.cell
    have kf := S.bq.frozen
    clear S0 by_ bs bc cx ce hsl hb cm cr
    have HP := (show Hid _ from p)
    clear p e e'
    gi_wp2
    have S2 := S.result l1 l2 hgc (by omega) false
    have hK' := (KeepsOthers.setCell W ⟨w.heap.size + 1, 0, none⟩ (.bool false)).same D _ hK rfl
    have S3 := S2.grown hw hD (grownBy_putObj' _ D (.deferred none)) (fun r e => by cases e; exact ⟨hD', _, hK', rfl⟩)
    have hc5 := S3.bq.cell
    refine ⟨by simp, .inl ⟨_, _, rfl, run_takeDeferred hK', ?_⟩⟩
    refine ⟨.bool false, ?_, w.heap.size, w.heap.size + 1, _, .inl ⟨rfl, HP.out, S3⟩⟩
    simp [results, Yba.results14, go_sem, hc5]
  case stop =>
    rintro D c pre W hD' ⟨rfl, k, hk, e, p, q, S⟩ hK
    clear S0 by_ bs bc cx ce hsl hb cm cr
    have HP := (show Hid _ from p)
    have HQ := (show Hid _ from q)
    clear p e q
    gi_wp2
    have S3 := S.grown hw hD (grownBy_putObj' _ D (.deferred none)) (fun r e => by cases e; exact ⟨hD', _, hK, rfl⟩)
    have hc5 := S3.bq.cell
    refine ⟨by simp, .inl ⟨_, _, rfl, run_takeDeferred hK, ?_⟩⟩
    refine ⟨.bool true, ?_, w.heap.size, w.heap.size + 1, _, .inr ⟨k, hk, rfl, HP.out, HQ.out, S3⟩⟩
    simp [results, Yba.results14, go_sem, hc5]
end Go.Proofs.Ybulkdtls
