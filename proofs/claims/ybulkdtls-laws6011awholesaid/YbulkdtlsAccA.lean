import Derived.Test.YbulkdtlsSeqB
import Derived.Test.YbulkdtlsSeqA
import Derived.Test.YbulkdtlsPlainA
import Derived.Test.YbulkdtlsTake
namespace Go.Proofs.Ybulkdtls
open Go.RowKit Go.Shelf Go.WideShapes
attribute [local go_sem] Oper.semAt_some

theorem SV.reset {w0 W : World} {gk ga gs gt gK gA gM gmap : Nat} {fK fA vk va vs vt : Value} {xk xa xs xt : List Int} {n : Nat} {D : DataW Unit} (h : SV w0 gk ga gs gt gK gA gM gmap fK fA W vk va vs vt xk xa xs xt n D) (o : Ord gk ga gs gt gK gA gM) :
    SV w0 gk ga gs gt gK gA gM gmap fK fA (W.setCell ⟨gs, 0, none⟩ vs) vk va vs vt xk xa xs xt n D ∧ SV w0 gk ga gs gt gK gA gM gmap fK fA (W.setCell ⟨gt, 0, none⟩ vt) vk va vs vt xk xa xs xt n D := by
  obtain ⟨o1, o2, o3, o4, o5, o6⟩ := o
  have key : ∀ (g : Nat) (v : Value) (ys : List Int), Log W gk g v ys → ga < g → ∀ (b : Nat) (u : Value) (zs : List Int), Log W gk b u zs → b ≠ g → Log (W.setCell ⟨g, 0, none⟩ v) gk b u zs := fun g v ys hg _ b u zs hb hne =>
    ⟨hb.1.other hne _, hb.2.kept (grownBy_setCell' _ _ _) (.inr (hg.1.not_row (by decide) hb.2).symm)⟩
  have self : ∀ (g : Nat) (v : Value) (ys : List Int), Log W gk g v ys → Log (W.setCell ⟨g, 0, none⟩ v) gk g v ys := fun g v ys hg => ⟨hg.1.set v, hg.2.kept (grownBy_setCell' _ _ _) (.inr (hg.1.not_row (by decide) hg.2).symm)⟩
  have mp : ∀ (g : Nat) (v : Value) (ys : List Int), Log W gk g v ys → gmap ≠ g := fun g v ys hg e => by
    subst e
    obtain ⟨es, ck, hb, _⟩ := h.om
    rw [show W.heap[gmap]? = _ from hg.1] at hb; cases hb
  constructor
  · exact ⟨h.bel.setCell (by show gk ≤ gs; omega) _, key _ _ _ h.rs (by omega) _ _ _ h.rk (by omega), key _ _ _ h.rs (by omega) _ _ _ h.ra (by omega), self _ _ _ h.rs, key _ _ _ h.rs (by omega) _ _ _ h.rt (by omega), h.a1, h.a2, h.a3, h.a4, h.a5, h.a6, h.bK.other (by omega) _, h.bA.other (by omega) _, h.bM.other (by omega) _, h.om.setCell (mp _ _ _ h.rs) _⟩
  · exact ⟨h.bel.setCell (by show gk ≤ gt; omega) _, key _ _ _ h.rt (by omega) _ _ _ h.rk (by omega), key _ _ _ h.rt (by omega) _ _ _ h.ra (by omega), key _ _ _ h.rt (by omega) _ _ _ h.rs (by omega), self _ _ _ h.rt, h.a1, h.a2, h.a3, h.a4, h.a5, h.a6, h.bK.other (by omega) _, h.bA.other (by omega) _, h.bM.other (by omega) _, h.om.setCell (mp _ _ _ h.rt) _⟩

theorem boxed_inj {W : World} {B : Nat} {t : TypeId} {u v : Value} (h1 : Boxed W B t u) (h2 : Boxed W B t v) : u = v := by
  have e := (show W.heap[B]? = _ from h1).symm.trans h2
  simpa using e

/-- After k elements. -/
def JA (w0 : World) (gk ga gs gt gK gA gM gmap : Nat) (fK fA : Value) (m : Int) (zs : Nat → Int) (k : Nat) (W : World) : Prop :=
  ∃ D, SA w0 gk ga gs gt gK gA gM gmap fK fA W (ints zs k) (ints zs k) (foldA m zs k).1 (foldA m zs k).2 k D ∧ Idx D (foldA m zs k).1 ∧ (k = 0 → Boxed W gs 22 (.slice none 0 0) ∧ Boxed W gt 22 (.slice none 0 0))

theorem SV.drew {w0 W : World} {gk ga gs gt gK gA gM gmap : Nat} {fK fA vk va vs vt : Value} {xk xa xs xt : List Int} {n : Nat} {D : DataW Unit} (h : SV w0 gk ga gs gt gK gA gM gmap fK fA W vk va vs vt xk xa xs xt n D) : SV w0 gk ga gs gt gK gA gM gmap fK fA W.drew vk va vs vt xk xa xs xt n D :=
  ⟨⟨h.bel.os, h.bel.tape, h.bel.output, h.bel.size, h.bel.block⟩, h.rk, h.ra, h.rs, h.rt, h.a1, h.a2, h.a3, h.a4, h.a5, h.a6, h.bK, h.bA, h.bM, h.om⟩

/-- 'i, ok := m[k]' where what is found is known. -/
theorem lookup_idx {F : Fence} {nF : Nat} {P : Program} (w : World) {ops : Array Oper} {rest : List Oper} {o : Oper} {a : Act} {Q : Exit → Act → World → Prop} (hg : o.guard = none) (m x : Operand) (t : TypeId) (hop : o.op = Op.lookup t m x true)
    (k e : TypeId) (q : IntKind) (K : Maps.Keyed P k) (ht : P.underlying t = some (.map k e)) (he : P.underlying e = some (.int q)) (hz : (zeroValue e).run P w = .ok (.int q 0) w) (b n : Nat) (D : DataW Unit)
    (hm : a.eval m = .map (some b)) (hown : w.ownsMap P k (plainElem P e) b n D) (key : Value) (kl : Lit) (hx : a.eval x = key) (hkey : keyOf P k key = some kl) (c : Int) (bv : Bool) (hat : D.atKey kl (.lit (.int q 0)) = .lit (.int q c)) (hhas : Maps.has D kl = bv)
    (hK : wpListIn F nF P ops Q rest (a.put o.dst (.tuple #[.int q c, .bool bv])) w) :
    wpListIn F nF P ops Q (o :: rest) a w :=
  wpListIn_lookup_own_ok_int w hg m x t hop k e q K ht he hz b n D hm hown key kl hx hkey (fun c' h _ => by
    have e := h.symm.trans hat
    simp at e
    subst e
    rw [hhas]
    exact hK)

/-- A row's value is a slice; where it holds something it lies at a block of its own. -/
theorem row_slice {W : World} {base n : Nat} {v : Value} {xs : List Value} (h : W.ownsRow base 3 1 v n xs) : ∃ sl cap, v = .slice sl n cap := by
  rcases h.2 with ⟨rfl, rfl⟩ | ⟨g, cap, cur, rfl, _⟩
  · exact ⟨none, 0, rfl⟩
  · exact ⟨_, cap, rfl⟩

theorem row_at {W : World} {base g cap n : Nat} {xs : List Int} (h : W.ownsRow base 3 1 (.slice (some ⟨g, 0, none⟩) n cap) xs.length (xs.map (Value.int .i64))) (j : Nat) (hj : j < xs.length) : W.cell? ⟨g, j, none⟩ = some (.int .i64 (xs.getD j 0)) := by
  have h1 := h.cells (g := g) rfl j (.int .i64 (xs.getD j 0)) (by simp [hj])
  rwa [add_plain, Nat.zero_add] at h1
theorem row_len {W : World} {base g cap n k : Nat} {xs : List Value} (h : W.ownsRow base 3 1 (.slice (some ⟨g, 0, none⟩) n cap) k xs) : n = k := by
  rcases h.2 with ⟨h', _⟩ | ⟨g', cap', cur, h', _⟩
  · cases h'
  · cases h'; rfl
theorem row_frozen {W : World} {base g cap n k : Nat} {xs : List Value} (h : W.ownsRow base 3 1 (.slice (some ⟨g, 0, none⟩) n cap) k xs) (j : Nat) : W.frozen? ⟨g, j, none⟩ = false := by
  obtain rfl := row_len h
  exact h.frozenAt j
theorem SV.stored' {w0 W : World} {gk ga gs gt gK gA gM gmap : Nat} {fK fA vk va vs : Value} {xk xa xs xt : List Int} {n n' g cap : Nat} {D : DataW Unit} (h : SV w0 gk ga gs gt gK gA gM gmap fK fA W vk va vs (.slice (some ⟨g, 0, none⟩) n' cap) xk xa xs xt n D) (j : Nat) (y : Int) : SV w0 gk ga gs gt gK gA gM gmap fK fA (W.setCell ⟨g, j, none⟩ (.int .i64 y)) vk va vs (.slice (some ⟨g, 0, none⟩) n' cap) xk xa xs (xt.set j y) n D := by
  obtain rfl := row_len h.rt.2
  exact h.stored j y
theorem SV.more {w0 W : World} {gk ga gs gt gK gA gM gmap : Nat} {fK fA vk va vs vt : Value} {xk xa xs xt : List Int} {n n' : Nat} {D : DataW Unit} (h : SV w0 gk ga gs gt gK gA gM gmap fK fA W vk va vs vt xk xa xs xt n D) (hn : n ≤ n') : SV w0 gk ga gs gt gK gA gM gmap fK fA W vk va vs vt xk xa xs xt n' D :=
  ⟨h.bel, h.rk, h.ra, h.rs, h.rt, h.a1, h.a2, h.a3, h.a4, h.a5, h.a6, h.bK, h.bA, h.bM, h.om.mono hn⟩

theorem one_new_set (w : World) (a : Addr) (v x : Value) (t : TypeId) : ∀ j u, [x][j]? = some u → ((w.setCell a v).alloc (.cells #[x] t)).cell? ((⟨w.heap.size, 0, none⟩ : Addr).add j) = some u := by
  have h := cell_one_new (w.setCell a v) x t
  rwa [World.size_setCell] at h

set_option maxRecDepth 100000 in
set_option maxHeartbeats 2000000 in
theorem acc_A (w : World) (gx gm gk ga b off len cap : Nat) (sl : Option Addr) (zs : Nat → Int) (m : Int) (h1 : 1 ≤ m) (h2 : m ≤ 5) (l0 : gx < gk) (lm : gm < gk) (l1 : gk < ga) (hga : ga < w.heap.size) (hlen : len ≤ 1048576)
    (cx : w.cell? ⟨gx, 0, none⟩ = some (.slice sl len cap)) (hsl : 0 < len → sl = some ⟨b, off, none⟩) (hb : 0 < len → b < gk) (ce : ∀ j, j < len → w.cell? ⟨b, off + j, none⟩ = some (.int .i64 (zs j)))
    (cm : w.cell? ⟨gm, 0, none⟩ = some (.int .u64 m)) (bk : Boxed w gk 22 (.slice none 0 0)) (ba : Boxed w ga 22 (.slice none 0 0)) :
    Calls Yba.prog 9 #[.func (.func 6) #[] #[.pointer (some ⟨gx, 0, none⟩)], .func (.func 7) #[] #[.pointer (some ⟨gk, 0, none⟩), .pointer (some ⟨gm, 0, none⟩)], .func (.func 8) #[] #[.pointer (some ⟨ga, 0, none⟩)]] w
      fun e W' => ∃ vk va vs vt, e = .returned (.tuple #[vs, vt]) ∧ Below gk w W' ∧ Log W' gk gk vk (ints zs len) ∧ Log W' gk ga va (ints zs len) ∧ W'.ownsRow gk 3 1 vs (foldA m zs len).1.length ((foldA m zs len).1.map (Value.int .i64)) ∧ W'.ownsRow gk 3 1 vt (foldA m zs len).2.length ((foldA m zs len).2.map (Value.int .i64)) ∧ (len = 0 → vs = .slice none 0 0 ∧ vt = .slice none 0 0) := by
  have hmm := @run_makeMap Yba.prog
  refine (callsIn_wide (n := 5)).1 ?_
  refine callsIn_of_wp_marks Yba.func9 rfl trivial ?_ rfl
  simp only [Yba.ntmps9, List.size_toArray, List.length_cons, List.length_nil, Nat.reduceAdd, Nat.reduceSub, Array.replicate_succ, Array.replicate_zero, List.push_toArray, List.append_toArray, List.nil_append, List.cons_append]
  gi_wp2
  have G0 := ((((((Below.refl gk w).alloc (by omega) (.cells #[.func (.func 7) #[] #[.pointer (some ⟨gk, 0, none⟩), .pointer (some ⟨gm, 0, none⟩)]] 27)).alloc (by simp; omega) (.cells #[.func (.func 8) #[] #[.pointer (some ⟨ga, 0, none⟩)]] 28)).alloc (by simp; omega) (.cells #[.slice none 0 0] 22)).alloc (by simp; omega) (.cells #[.slice none 0 0] 22)).alloc (by simp; omega) (.map #[] 0)).alloc (by simp; omega) (.cells #[.map (some (w.heap.size + 1 + 1 + 1 + 1))] 39)
  obtain ⟨W0, hW0⟩ : ∃ W0, ((((((w.alloc (.cells #[.func (.func 7) #[] #[.pointer (some ⟨gk, 0, none⟩), .pointer (some ⟨gm, 0, none⟩)]] 27)).alloc (.cells #[.func (.func 8) #[] #[.pointer (some ⟨ga, 0, none⟩)]] 28)).alloc (.cells #[.slice none 0 0] 22)).alloc (.cells #[.slice none 0 0] 22)).alloc (.map #[] 0)).alloc (.cells #[.map (some (w.heap.size + 1 + 1 + 1 + 1))] 39)) = W0 := ⟨_, rfl⟩
  have hsz : W0.heap.size = w.heap.size + 6 := by rw [← hW0]; simp
  have o : Ord gk ga (w.heap.size + 1 + 1) (w.heap.size + 1 + 1 + 1) w.heap.size (w.heap.size + 1) (w.heap.size + 1 + 1 + 1 + 1 + 1) := ⟨l1, hga, by omega, by omega, by omega, by omega⟩
  have S0 : JA w gk ga (w.heap.size + 1 + 1) (w.heap.size + 1 + 1 + 1) w.heap.size (w.heap.size + 1) (w.heap.size + 1 + 1 + 1 + 1 + 1) (w.heap.size + 1 + 1 + 1 + 1) (.func (.func 7) #[] #[.pointer (some ⟨gk, 0, none⟩), .pointer (some ⟨gm, 0, none⟩)]) (.func (.func 8) #[] #[.pointer (some ⟨ga, 0, none⟩)]) m zs 0 W0 := by
    subst hW0
    have ap : Apart (.slice none 0 0) (.slice none 0 0) := fun g h => by cases h
    have b6 : ∀ (g : Nat) (t : TypeId) (v : Value), Boxed w g t v → Boxed ((((((w.alloc (.cells #[.func (.func 7) #[] #[.pointer (some ⟨gk, 0, none⟩), .pointer (some ⟨gm, 0, none⟩)]] 27)).alloc (.cells #[.func (.func 8) #[] #[.pointer (some ⟨ga, 0, none⟩)]] 28)).alloc (.cells #[.slice none 0 0] 22)).alloc (.cells #[.slice none 0 0] 22)).alloc (.map #[] 0)).alloc (.cells #[.map (some (w.heap.size + 1 + 1 + 1 + 1))] 39)) g t v := fun g t v h => (((((h.alloc _).alloc _).alloc _).alloc _).alloc _).alloc _
    have bK := (((((Boxed.new w 27 (.func (.func 7) #[] #[.pointer (some ⟨gk, 0, none⟩), .pointer (some ⟨gm, 0, none⟩)])).alloc (.cells #[.func (.func 8) #[] #[.pointer (some ⟨ga, 0, none⟩)]] 28)).alloc (.cells #[.slice none 0 0] 22)).alloc (.cells #[.slice none 0 0] 22)).alloc (.map #[] 0)).alloc (.cells #[.map (some (w.heap.size + 1 + 1 + 1 + 1))] 39)
    have bA := ((((Boxed.new (w.alloc (.cells #[.func (.func 7) #[] #[.pointer (some ⟨gk, 0, none⟩), .pointer (some ⟨gm, 0, none⟩)]] 27)) 28 (.func (.func 8) #[] #[.pointer (some ⟨ga, 0, none⟩)])).alloc (.cells #[.slice none 0 0] 22)).alloc (.cells #[.slice none 0 0] 22)).alloc (.map #[] 0)).alloc (.cells #[.map (some (w.heap.size + 1 + 1 + 1 + 1))] 39)
    have bS := (((Boxed.new ((w.alloc (.cells #[.func (.func 7) #[] #[.pointer (some ⟨gk, 0, none⟩), .pointer (some ⟨gm, 0, none⟩)]] 27)).alloc (.cells #[.func (.func 8) #[] #[.pointer (some ⟨ga, 0, none⟩)]] 28)) 22 (.slice none 0 0)).alloc (.cells #[.slice none 0 0] 22)).alloc (.map #[] 0)).alloc (.cells #[.map (some (w.heap.size + 1 + 1 + 1 + 1))] 39)
    have bT := ((Boxed.new (((w.alloc (.cells #[.func (.func 7) #[] #[.pointer (some ⟨gk, 0, none⟩), .pointer (some ⟨gm, 0, none⟩)]] 27)).alloc (.cells #[.func (.func 8) #[] #[.pointer (some ⟨ga, 0, none⟩)]] 28)).alloc (.cells #[.slice none 0 0] 22)) 22 (.slice none 0 0)).alloc (.map #[] 0)).alloc (.cells #[.map (some (w.heap.size + 1 + 1 + 1 + 1))] 39)
    have om := (World.ownsMap_made ((((w.alloc (.cells #[.func (.func 7) #[] #[.pointer (some ⟨gk, 0, none⟩), .pointer (some ⟨gm, 0, none⟩)]] 27)).alloc (.cells #[.func (.func 8) #[] #[.pointer (some ⟨ga, 0, none⟩)]] 28)).alloc (.cells #[.slice none 0 0] 22)).alloc (.cells #[.slice none 0 0] 22)) Yba.prog 3 (plainElem (H := Unit) Yba.prog 3)).alloc (.cells #[.map (some (w.heap.size + 1 + 1 + 1 + 1))] 39)
    have bM := Boxed.new (((((w.alloc (.cells #[.func (.func 7) #[] #[.pointer (some ⟨gk, 0, none⟩), .pointer (some ⟨gm, 0, none⟩)]] 27)).alloc (.cells #[.func (.func 8) #[] #[.pointer (some ⟨ga, 0, none⟩)]] 28)).alloc (.cells #[.slice none 0 0] 22)).alloc (.cells #[.slice none 0 0] 22)).alloc (.map #[] 0)) 39 (.map (some (w.heap.size + 1 + 1 + 1 + 1)))
    simp only [World.size_alloc] at bK bA bS bT om bM
    have nl : ∀ (V : World) (g : Nat), Boxed V g 22 (.slice none 0 0) → Log V gk g (.slice none 0 0) [] := fun V g h => ⟨h, World.ownsRow_nil _ _ _ _⟩
    exact ⟨.map [], ⟨G0, ⟨_, _, _, _, ⟨nl _ _ (b6 _ _ _ bk), nl _ _ (b6 _ _ _ ba), nl _ _ bS, nl _ _ bT⟩, ap, ap, ap, ap, ap, ap⟩, bK, bA, bM, om⟩, Idx.nil, fun _ => ⟨bS, bT⟩⟩
  rw [hW0] at G0 ⊢
  refine range_law rfl (by omega) (gf := 6) (lb := #[.pointer (some ⟨gx, 0, none⟩)]) rfl trivial (enters_of Yba.func6 (by kernel_rfl) rfl)
    (iterA Fence.wide (5 - 1) trivial rfl (by omega) w gx gk b off len cap sl zs (JA w gk ga (w.heap.size + 1 + 1) (w.heap.size + 1 + 1 + 1) w.heap.size (w.heap.size + 1) (w.heap.size + 1 + 1 + 1 + 1 + 1) (w.heap.size + 1 + 1 + 1 + 1) (.func (.func 7) #[] #[.pointer (some ⟨gk, 0, none⟩), .pointer (some ⟨gm, 0, none⟩)]) (.func (.func 8) #[] #[.pointer (some ⟨ga, 0, none⟩)]) m zs) (fun k W h => by obtain ⟨D, S, _⟩ := h; exact S.bel) l0 hlen cx hsl hb ce) (fun _ => rfl)
    (fun x s A B row hs hg hr => ⟨hs.1, hs.2.1, by obtain ⟨D, S, hI, hN⟩ := hs.2.2; exact ⟨D, S.grown (by omega) (by omega) hg hr, hI, fun h => ⟨(hN h).1.kept hg (fun e => by have := (hr _ e.symm).1; omega), (hN h).2.kept hg (fun e => by have := (hr _ e.symm).1; omega)⟩⟩⟩)
    (fun s A B row hs hg hr => by obtain ⟨k, e, D, S, hI, hN⟩ := hs; exact ⟨k, e, D, S.grown (by omega) (by omega) hg hr, hI, fun h => ⟨(hN h).1.kept hg (fun e => by have := (hr _ e.symm).1; omega), (hN h).2.kept hg (fun e => by have := (hr _ e.symm).1; omega)⟩⟩)
    (fun c s A B row hs hg hr => hs)
    (fun s A B row hs hg hr => by obtain ⟨⟨k, e, D, S, hI, hN⟩, e'⟩ := hs; exact ⟨⟨k, e, D, S.grown (by omega) (by omega) hg hr, hI, fun h => ⟨(hN h).1.kept hg (fun e => by have := (hr _ e.symm).1; omega), (hN h).2.kept hg (fun e => by have := (hr _ e.symm).1; omega)⟩⟩, e'⟩)
    (fun c s A B row hs hg hr => hs)
    ⟨0, rfl, S0⟩
    (fun x => { tmps := #[.func (.func 6) #[] #[.pointer (some ⟨gx, 0, none⟩)], .func (.func 7) #[] #[.pointer (some ⟨gk, 0, none⟩), .pointer (some ⟨gm, 0, none⟩)], .func (.func 8) #[] #[.pointer (some ⟨ga, 0, none⟩)], undef,
      .pointer (some ⟨w.heap.size, 0, none⟩), .pointer (some ⟨w.heap.size + 1, 0, none⟩), .pointer (some ⟨w.heap.size + 1 + 1, 0, none⟩), .pointer (some ⟨w.heap.size + 1 + 1 + 1, 0, none⟩), .pointer (some ⟨w.heap.size + 1 + 1 + 1 + 1 + 1, 0, none⟩), .int .i64 (zs x), undef, undef, undef, undef,
      .map (some (w.heap.size + 1 + 1 + 1 + 1)), .func (.func 6) #[] #[.pointer (some ⟨gx, 0, none⟩)], .int .i64 (zs x), undef, undef, undef, undef, undef, undef, undef, undef, undef, undef, undef, undef, undef, undef, undef, undef, undef, undef, undef, undef, undef, undef, undef, undef, undef, undef, undef, undef, undef, undef, undef, undef, undef, undef, undef, undef], defers := [] }) ?assign ?body ?done ?stop
  case assign =>
    intro l x W K hK
    gi_wp2
    exact hK
  case body =>
    rintro l pre x W ⟨rfl, hx, D, S, hI, _⟩
    obtain ⟨vk, va, vs, vt, S⟩ := S.open_
    have hfl := foldA_len m zs x
    have hw0 := S.bel.size
    have kf := S.bK.cell
    have km := (S.bel.cell (p := ⟨gm, 0, none⟩) lm).trans cm
    have ksz : gk ≤ W.heap.size := by omega
    have hil : (ints zs x).length = x := by simp [ints]
    have hmx : Yba.prog.follows .mixedOrders = true := by kernel_rfl
    have hkey := Maps.keyOf_int_mk Yba.underlying3 (a := kz m (zs x)) (wrap64_wf _)
    have fe : foldA m zs (x + 1) = stepA m (foldA m zs x) (zs x) := rfl
    generalize foldA m zs x = s at S hI hfl fe
    obtain ⟨hn1, hn2⟩ := hfl
    have HS := (show Hid _ from S)
    have HI := (show Hid _ from hI)
    by_cases hin : kz m (zs x) ∈ s.1
    · have hat := (hI (kz m (zs x))).2 hin
      have hhas : Maps.has D (.int .i64 (kz m (zs x))) = true := by rw [(hI _).1]; simp [hin]
      have hlt := List.idxOf_lt_length_of_mem hin
      have hst : stepA m s (zs x) = (s.1, s.2.set (s.1.idxOf (kz m (zs x))) (fz (s.2.getD (s.1.idxOf (kz m (zs x))) 0) (zs x))) := if_pos hin
      generalize s.1.idxOf (kz m (zs x)) = i at hat hlt hst
      have hi2 : (i : Int) < s.2.length := by omega
      obtain ⟨y, hy⟩ : ∃ y, s.2.getD i 0 = y := ⟨_, rfl⟩
      rw [hy] at hst
      obtain ⟨g, cap', rfl⟩ : ∃ g cap', vt = .slice (some ⟨g, 0, none⟩) s.2.length cap' := by
        rcases S.rt.2.2 with ⟨_, h0⟩ | ⟨g, cap', _, e, _⟩
        · omega
        · exact ⟨g, cap', e⟩
      clear S hI cx hsl hb ce cm bk ba S0 G0
      gi_wp2_with (first
        | (refine ⟨trivial, ?_⟩; gi_at_call 7; refine (CallsIn.inRound l (callsIn_wide.2 (key_A gk gk gm (ints zs x) m (zs x) vk _ h1 h2 (by omega) HS.out.rk.1 HS.out.rk.2 ksz (Nat.le_refl _) km lm))).mono ?_; rintro e W1 ⟨rfl, vk', hA⟩; have S1 := (show Hid _ from HS.out.key o hA); have K1 := (show Hid _ from hA.keeps HS.out.rk); have km1 := S1.out.bM.cell; have kt1 := S1.out.rt.1.cell; have ka1 := S1.out.bA.cell; have ke1 := (row_at S1.out.rt.2 i (by omega)).trans (by rw [hy]); clear hA kf km)
        | (gi_at_lookup; refine lookup_idx _ rfl _ _ 39 rfl 3 3 .i64 (Maps.int_keyed Yba.underlying3) Yba.underlying39 Yba.underlying3 (Yba.zeroValue3 _) _ x D rfl S1.out.om _ _ rfl hkey i true hat hhas ?_))
      have c1 : gk ≤ W1.drew.heap.size := Nat.le_of_lt (show gk < W1.heap.size from S1.out.rk.1.lt)
      refine wpIn_region_any hmx ?_
      change wpAnyIn _ _ _ _ _ _ _ _ _ (World.drew _)
      have hC : (fun V : World => V.cell? ⟨w.heap.size + 1 + 1 + 1, 0, none⟩ = some (.slice (some ⟨g, 0, none⟩) (s.2.length) cap') ∧ V.cell? ⟨w.heap.size + 1, 0, none⟩ = some (.func (.func 8) #[] #[.pointer (some ⟨ga, 0, none⟩)]) ∧ V.cell? ⟨g, i, none⟩ = some (.int .i64 y)) W1.drew := ⟨kt1, ka1, ke1⟩
      refine wpAnyC.any (C := fun V => V.cell? ⟨w.heap.size + 1 + 1 + 1, 0, none⟩ = some (.slice (some ⟨g, 0, none⟩) (s.2.length) cap') ∧ V.cell? ⟨w.heap.size + 1, 0, none⟩ = some (.func (.func 8) #[] #[.pointer (some ⟨ga, 0, none⟩)]) ∧ V.cell? ⟨g, i, none⟩ = some (.int .i64 y)) (fin := 10) _ _ _ _ ?_
      refine takeC (i := 0) (v := .slice (some ⟨g, 0, none⟩) (s.2.length) cap') rfl (by kernel_rfl) (by kernel_rfl) (by kernel_rfl) (fun _ _ _ h => h) hC ⟨rfl, fun V hV => (by obtain ⟨v1, v2, v3⟩ := hV; go_simp), fun _ => rfl⟩ ?_
      refine takeC (i := 1) (v := .int .i64 i) rfl (by kernel_rfl) (by kernel_rfl) (by kernel_rfl) (fun _ _ _ h => h) hC ⟨rfl, fun V hV => (by obtain ⟨v1, v2, v3⟩ := hV; go_simp), fun _ => rfl⟩ ?_
      refine takeC (i := 2) (v := .func (.func 8) #[] #[.pointer (some ⟨ga, 0, none⟩)]) rfl (by kernel_rfl) (by kernel_rfl) (by kernel_rfl) (fun _ _ _ h => h) hC ⟨rfl, fun V hV => (by obtain ⟨v1, v2, v3⟩ := hV; go_simp), fun _ => rfl⟩ ?_
      refine takeC (i := 3) (v := .slice (some ⟨g, 0, none⟩) (s.2.length) cap') rfl (by kernel_rfl) (by kernel_rfl) (by kernel_rfl) (fun _ _ _ h => h) hC ⟨rfl, fun V hV => (by obtain ⟨v1, v2, v3⟩ := hV; go_simp), fun _ => rfl⟩ ?_
      refine takeC (i := 4) (v := .int .i64 i) rfl (by kernel_rfl) (by kernel_rfl) (by kernel_rfl) (fun _ _ _ h => h) hC ⟨rfl, fun V hV => (by obtain ⟨v1, v2, v3⟩ := hV; go_simp), fun _ => rfl⟩ ?_
      refine takeC (i := 5) (v := .pointer (some ⟨g, i, none⟩)) rfl (by kernel_rfl) (by kernel_rfl) (by kernel_rfl) (fun _ _ _ h => h) hC ⟨rfl, fun V hV => (by obtain ⟨v1, v2, v3⟩ := hV; go_simp), fun _ => rfl⟩ ?_
      refine takeC (i := 6) (v := .int .i64 y) rfl (by kernel_rfl) (by kernel_rfl) (by kernel_rfl) (fun _ _ _ h => h) hC ⟨rfl, fun V hV => (by obtain ⟨v1, v2, v3⟩ := hV; go_simp), fun _ => rfl⟩ ?_
      refine takeC (i := 7) (v := .int .i64 (zs x)) rfl (by kernel_rfl) (by kernel_rfl) (by kernel_rfl) (fun _ _ _ h => h) hC ⟨rfl, fun V hV => (by obtain ⟨v1, v2, v3⟩ := hV; go_simp), fun _ => rfl⟩ ?_
      refine oneC (i := 8) (by kernel_rfl) rfl fun K hK => ?_
      go_simp
      gi_wp2_with (refine ⟨trivial, ?_⟩; gi_at_call 8; refine (CallsIn.inRound l (callsIn_wide.2 (add_A gk ga (ints zs x) y (zs x) va _ (by omega) S1.out.drew.ra.1 S1.out.drew.ra.2 c1 (by omega)))).mono ?_; rintro e W2 ⟨rfl, va', hA⟩; have S2 := (show Hid _ from S1.out.drew.add o hA); have K2 := (show Hid _ from hA.keeps S1.out.drew.ra); have kt2 := S2.out.rt.1.cell; have ka2 := S2.out.bA.cell; have ke2 := (row_at S2.out.rt.2 i (by omega)).trans (by rw [hy]); have kf2 := row_frozen S2.out.rt.2 i; clear hA)
      refine hK _ _ (.inr ⟨kt2, ka2, ke2⟩) ?_
      clear hK K
      refine oneC (i := 9) (by kernel_rfl) rfl fun K hK => ?_
      go_simp
      refine hK _ _ (.inr ⟨kt2, ka2, ke2⟩) ?_
      clear hK K
      refine oneC (i := 10) (by kernel_rfl) rfl fun K hK => ?_
      go_simp
      refine hK _ _ (.inl rfl) ?_
      clear hK K
      refine doneC (by kernel_rfl) ?_ _
      gi_wp2
      refine ⟨(K1.out.from _).trans (((KeepsOthers.drew _).trans (K2.out.trans (KeepsOthers.setCell _ _ _))).from _), x + 1, by rw [List.range_succ], D, ?_, ?_, fun h => absurd h (by omega)⟩
      · rw [fe, hst, ints_succ]
        exact ((S2.out.stored' i (fz y (zs x))).more (Nat.le_succ x)).shut
      · rw [fe, hst]
        exact HI.out
    · have hhas : Maps.has D (.int .i64 (kz m (zs x))) = false := by rw [(hI _).1]; simp [hin]
      have hat : D.atKey (.int .i64 (kz m (zs x))) (.lit (.int .i64 0)) = .lit (.int .i64 0) := Maps.atKey_of_not_has hhas _
      have hst : stepA m s (zs x) = (s.1 ++ [kz m (zs x)], s.2 ++ [fz 0 (zs x)]) := if_neg hin
      have hID := (show Hid _ from hI.step S.om.isMap hin)
      obtain ⟨sl', cap', rfl⟩ := row_slice S.rs.2
      obtain ⟨i0, hi, hz0, hz1, hz2⟩ := info_parts Yba.info3
      have hwf : (Lit.int .i64 (s.1.length : Int)).wf = true := by simp [Lit.wf, IntKind.min, IntKind.max, IntKind.signed, IntKind.bits]; omega
      clear S hI cx hsl hb ce cm bk ba S0 G0
      have HW := (show Hid _ from hwf)
      clear hwf
      gi_wp2_with (first
        | (refine ⟨trivial, ?_⟩; gi_at_call 7; refine (CallsIn.inRound l (callsIn_wide.2 (key_A gk gk gm (ints zs x) m (zs x) vk _ h1 h2 (by omega) HS.out.rk.1 HS.out.rk.2 ksz (Nat.le_refl _) km lm))).mono ?_; rintro e W1 ⟨rfl, vk', hA⟩; have S1 := (show Hid _ from HS.out.key o hA); have K1 := (show Hid _ from hA.keeps HS.out.rk); have km1 := S1.out.bM.cell; have ks1 := S1.out.rs.1.cell; clear hA kf km)
        | (gi_at_lookup; refine lookup_idx _ rfl _ _ 39 rfl 3 3 .i64 (Maps.int_keyed Yba.underlying3) Yba.underlying39 Yba.underlying3 (Yba.zeroValue3 _) _ x D rfl S1.out.om _ _ rfl hkey 0 false hat hhas ?_)
        | (gi_at_mapUpdate; refine wpListIn_mapUpdate_own _ rfl _ _ _ 39 rfl 3 3 (Maps.int_keyed Yba.underlying3) Yba.underlying39 _ (w.heap.size + 1 + 1 + 1 + 1) x _ rfl S1.out.om (by unfold maxLen; omega) _ _ _ rfl rfl hkey _ [] (plainElem_int Yba.underlying3 HW.out) ?_; intro Wm hown1 hgrow1; have Sm := (show Hid _ from S1.out.noted (by omega) hown1 hgrow1); have Km := (show Hid _ from KeepsFrom.of_grownBy (B := W0.heap.size) hgrow1 (fun j e => (by injection e with e; omega))); have ksm := Sm.out.rs.1.cell; have cm1 := (show gk ≤ Wm.heap.size from Nat.le_of_lt Sm.out.rk.1.lt); clear hown1 hgrow1)
        | (gi_at_builtin; refine wpListIn_append_own_at _ rfl _ _ 22 rfl gk 3 i0 (.int .i64 0) 1 8 Yba.underlying22 hi hz0 hz1 hz2 rfl (by decide) _ _ _ rfl (S3.out.rt.2.alloc _) ⟨w1.heap.size, 0, none⟩ 1 1 [.int .i64 0] rfl rfl (one_new_set w1 _ _ _ 3) (by simp [Value.oneCell']) (by unfold maxLen; omega) (by omega) (by have h3 := S3.out.rk.1.lt; simp at h3 ⊢; omega) ?_; intro v2 w2 hown2 hgrow2 _ hat2; obtain ⟨g2, cap2, rfl⟩ := ownsRow_succ hown2; have A2 : AppTo gk (w.heap.size + 1 + 1 + 1) vt (.slice (some ⟨g2, 0, none⟩) (s.2.length + 1) cap2) s.2 0 (w1.setCell ⟨w.heap.size + 1 + 1, 0, none⟩ (.slice (some ⟨g1, 0, none⟩) (s.1.length + 1) cap1)) (w2.setCell ⟨w.heap.size + 1 + 1 + 1, 0, none⟩ (.slice (some ⟨g2, 0, none⟩) (s.2.length + 1) cap2)) := (⟨w2, _, (by simpa using hown2), hgrow2, hat2, rfl⟩); have S4 := (show Hid _ from S3.out.accs o A2); have K4 := (show Hid _ from A2.keeps S3.out.rt); have b2 := (S3.out.rt.1.alloc _).kept hgrow2 (S3.out.rt.1.not_row (by decide) S3.out.rt.2); have kt2 := b2.cell; have kf2 := b2.frozen; clear hown2 hgrow2 hat2 A2 b2)
        | (gi_at_builtin; refine wpListIn_append_own_at _ rfl _ _ 22 rfl gk 3 i0 (.int .i64 0) 1 8 Yba.underlying22 hi hz0 hz1 hz2 rfl (by decide) _ _ _ rfl (Sm.out.rs.2.alloc _) ⟨Wm.heap.size, 0, none⟩ 1 1 [.int .i64 (kz m (zs x))] rfl rfl (cell_one_new _ _ _) (by simp [Value.oneCell']) (by unfold maxLen; omega) (by omega) (by simp; omega) ?_; intro v1 w1 hown1 hgrow1 _ hat1; obtain ⟨g1, cap1, rfl⟩ := ownsRow_succ hown1; have A1 : AppTo gk (w.heap.size + 1 + 1) (.slice sl' s.1.length cap') (.slice (some ⟨g1, 0, none⟩) (s.1.length + 1) cap1) s.1 (kz m (zs x)) Wm (w1.setCell ⟨w.heap.size + 1 + 1, 0, none⟩ (.slice (some ⟨g1, 0, none⟩) (s.1.length + 1) cap1)) := (⟨w1, _, (by simpa using hown1), hgrow1, hat1, rfl⟩); have S3 := (show Hid _ from Sm.out.keys o A1); have K3 := (show Hid _ from A1.keeps Sm.out.rs); have b1 := (Sm.out.rs.1.alloc _).kept hgrow1 (Sm.out.rs.1.not_row (by decide) Sm.out.rs.2); have ks3 := b1.cell; have kf3 := b1.frozen; have kt3 := S3.out.rt.1.cell; clear hown1 hgrow1 hat1 A1 b1))
      have hgd : some (Value.int .i64 ((s.2 ++ [0]).getD s.1.length 0)) = some (.int .i64 0) := by rw [← hn2]; simp
      obtain ⟨W4, hW4⟩ : ∃ W4, w2.setCell ⟨w.heap.size + 1 + 1 + 1, 0, none⟩ (.slice (some ⟨g2, 0, none⟩) (s.1.length + 1) cap2) = W4 := ⟨_, rfl⟩
      have S5' := S4.out
      have K5' := K4.out
      try rw [hn2] at S5'
      try rw [hn2] at K5'
      rw [hW4] at S5' K5' ⊢
      have S5 := (show Hid _ from S5')
      have K5 := (show Hid _ from K5')
      have kt1 := S5'.rt.1.cell
      have ka1 := S5'.bA.cell
      have ke1 := (row_at S5'.rt.2 s.1.length (by simp; omega)).trans hgd
      have hi2 : (s.1.length : Int) < (s.1.length : Int) + 1 := by omega
      have HK := (show Hid _ from (K1.out.from W0.heap.size).trans (Km.out.trans ((K3.out.from W0.heap.size).trans (K5'.from W0.heap.size))))
      clear S5' K5' hW4 kt2 kf2 ks3 kf3 kt3 ksm ks1 km1 K1 Km K3 K4 S1 Sm S3 S4 HS K5
      have c1 : gk ≤ W4.drew.heap.size := Nat.le_of_lt (show gk < W4.heap.size from S5.out.rk.1.lt)
      refine wpIn_region_any hmx ?_
      change wpAnyIn _ _ _ _ _ _ _ _ _ (World.drew _)
      have hC : (fun V : World => V.cell? ⟨w.heap.size + 1 + 1 + 1, 0, none⟩ = some (.slice (some ⟨g2, 0, none⟩) (s.1.length + 1) cap2) ∧ V.cell? ⟨w.heap.size + 1, 0, none⟩ = some (.func (.func 8) #[] #[.pointer (some ⟨ga, 0, none⟩)]) ∧ V.cell? ⟨g2, s.1.length, none⟩ = some (.int .i64 0)) W4.drew := ⟨kt1, ka1, ke1⟩
      refine wpAnyC.any (C := fun V => V.cell? ⟨w.heap.size + 1 + 1 + 1, 0, none⟩ = some (.slice (some ⟨g2, 0, none⟩) (s.1.length + 1) cap2) ∧ V.cell? ⟨w.heap.size + 1, 0, none⟩ = some (.func (.func 8) #[] #[.pointer (some ⟨ga, 0, none⟩)]) ∧ V.cell? ⟨g2, s.1.length, none⟩ = some (.int .i64 0)) (fin := 10) _ _ _ _ ?_
      refine takeC (i := 0) (v := .slice (some ⟨g2, 0, none⟩) (s.1.length + 1) cap2) rfl (by kernel_rfl) (by kernel_rfl) (by kernel_rfl) (fun _ _ _ h => h) hC ⟨rfl, fun V hV => (by obtain ⟨v1, v2, v3⟩ := hV; go_simp), fun _ => rfl⟩ ?_
      refine takeC (i := 1) (v := .int .i64 (s.1.length : Int)) rfl (by kernel_rfl) (by kernel_rfl) (by kernel_rfl) (fun _ _ _ h => h) hC ⟨rfl, fun V hV => (by obtain ⟨v1, v2, v3⟩ := hV; go_simp), fun _ => rfl⟩ ?_
      refine takeC (i := 2) (v := .func (.func 8) #[] #[.pointer (some ⟨ga, 0, none⟩)]) rfl (by kernel_rfl) (by kernel_rfl) (by kernel_rfl) (fun _ _ _ h => h) hC ⟨rfl, fun V hV => (by obtain ⟨v1, v2, v3⟩ := hV; go_simp), fun _ => rfl⟩ ?_
      refine takeC (i := 3) (v := .slice (some ⟨g2, 0, none⟩) (s.1.length + 1) cap2) rfl (by kernel_rfl) (by kernel_rfl) (by kernel_rfl) (fun _ _ _ h => h) hC ⟨rfl, fun V hV => (by obtain ⟨v1, v2, v3⟩ := hV; go_simp), fun _ => rfl⟩ ?_
      refine takeC (i := 4) (v := .int .i64 (s.1.length : Int)) rfl (by kernel_rfl) (by kernel_rfl) (by kernel_rfl) (fun _ _ _ h => h) hC ⟨rfl, fun V hV => (by obtain ⟨v1, v2, v3⟩ := hV; go_simp), fun _ => rfl⟩ ?_
      refine takeC (i := 5) (v := .pointer (some ⟨g2, s.1.length, none⟩)) rfl (by kernel_rfl) (by kernel_rfl) (by kernel_rfl) (fun _ _ _ h => h) hC ⟨rfl, fun V hV => (by obtain ⟨v1, v2, v3⟩ := hV; go_simp), fun _ => rfl⟩ ?_
      refine takeC (i := 6) (v := .int .i64 0) rfl (by kernel_rfl) (by kernel_rfl) (by kernel_rfl) (fun _ _ _ h => h) hC ⟨rfl, fun V hV => (by obtain ⟨v1, v2, v3⟩ := hV; go_simp), fun _ => rfl⟩ ?_
      refine takeC (i := 7) (v := .int .i64 (zs x)) rfl (by kernel_rfl) (by kernel_rfl) (by kernel_rfl) (fun _ _ _ h => h) hC ⟨rfl, fun V hV => (by obtain ⟨v1, v2, v3⟩ := hV; go_simp), fun _ => rfl⟩ ?_
      refine oneC (i := 8) (by kernel_rfl) rfl fun K hK => ?_
      go_simp
      gi_wp2_with (refine ⟨trivial, ?_⟩; gi_at_call 8; refine (CallsIn.inRound l (callsIn_wide.2 (add_A gk ga (ints zs x) 0 (zs x) va _ (by omega) S5.out.drew.ra.1 S5.out.drew.ra.2 c1 (by omega)))).mono ?_; rintro e W2 ⟨rfl, va', hA⟩; have S2 := (show Hid _ from S5.out.drew.add o hA); have K2 := (show Hid _ from hA.keeps S5.out.drew.ra); have kt2 := S2.out.rt.1.cell; have ka2 := S2.out.bA.cell; have ke2 := (row_at S2.out.rt.2 s.1.length (by simp; omega)).trans (hgd); have kf2 := row_frozen S2.out.rt.2 s.1.length; clear hA)
      refine hK _ _ (.inr ⟨kt2, ka2, ke2⟩) ?_
      clear hK K
      refine oneC (i := 9) (by kernel_rfl) rfl fun K hK => ?_
      go_simp
      refine hK _ _ (.inr ⟨kt2, ka2, ke2⟩) ?_
      clear hK K
      refine oneC (i := 10) (by kernel_rfl) rfl fun K hK => ?_
      go_simp
      refine hK _ _ (.inl rfl) ?_
      clear hK K
      refine doneC (by kernel_rfl) ?_ _
      gi_wp2
      refine ⟨HK.out.trans (((KeepsOthers.drew _).trans (K2.out.trans (KeepsOthers.setCell _ _ _))).from _), x + 1, by rw [List.range_succ], D.put (.int .i64 (kz m (zs x))) (.lit (.int .i64 s.1.length)), ?_, ?_, fun h => absurd h (by omega)⟩
      rotate_left
      · rw [fe, hst]
        exact hID.out
      · rw [fe, hst, ints_succ]
        have S6 := S2.out.stored' s.1.length (fz 0 (zs x))
        rw [show (s.2 ++ [(0 : Int)]).set s.1.length (fz 0 (zs x)) = s.2 ++ [fz 0 (zs x)] by rw [← hn2]; simp] at S6
        exact S6.shut
  case done =>
    rintro B ys W hD' ⟨⟨k, e, D, S, _, hN⟩, e'⟩ hK
    obtain rfl : k = len := by
      have := congrArg List.length (e.symm.trans e')
      simpa using this
    obtain ⟨vk, va, vs, vt, S⟩ := S.open_
    have hmx : Yba.prog.follows .mixedOrders = true := by kernel_rfl
    have hN' : k = 0 → vs = .slice none 0 0 ∧ vt = .slice none 0 0 := fun h => ⟨boxed_inj S.rs.1 (hN h).1, boxed_inj S.rt.1 (hN h).2⟩
    obtain ⟨sl1, cap1, rfl⟩ := row_slice S.rs.2
    obtain ⟨sl2, cap2, rfl⟩ := row_slice S.rt.2
    have k1 := S.rs.1.cell
    have k2 := S.rt.1.cell
    have f1 := S.rs.1.frozen
    have f2 := S.rt.1.frozen
    have HS := (show Hid _ from S)
    have HK := (show Hid _ from hK)
    have HN := (show Hid _ from hN')
    clear hN hN'
    clear S S0 G0 cx hsl hb ce cm bk ba hK e e'
    gi_wp2
    gi_region_with_o (fail)
    all_goals gi_wp2
    all_goals
      have S3 := (((HS.out.reset o).1.reset o).2).drew
      have hK' := (KeepsOthers.drew _).same B _ ((KeepsOthers.setCell _ ⟨w.heap.size + 1 + 1 + 1, 0, none⟩ (.slice sl2 (foldA m zs k).2.length cap2)).same B _ ((KeepsOthers.setCell _ ⟨w.heap.size + 1 + 1, 0, none⟩ (.slice sl1 (foldA m zs k).1.length cap1)).same B _ HK.out rfl) rfl) rfl
      have S4 := S3.shut.grown (B := W0.heap.size) (by omega) (by omega) (grownBy_putObj' _ B (.deferred none)) (fun r e => by cases e; exact ⟨hD', _, hK', rfl⟩)
      obtain ⟨vk, va, vs, vt, S5⟩ := S4.open_
      have e1 := boxed_inj S5.rs.1 (S3.rs.1.kept (grownBy_putObj' _ B (.deferred none)) (fun e => by injection e with e; omega))
      have e2 := boxed_inj S5.rt.1 (S3.rt.1.kept (grownBy_putObj' _ B (.deferred none)) (fun e => by injection e with e; omega))
      have hc1 := S5.rs.1.cell
      have hc2 := S5.rt.1.cell
      refine ⟨by simp, .inl ⟨_, _, rfl, run_takeDeferred hK', ?_⟩⟩
      refine ⟨.tuple #[vs, vt], ?_, vk, va, vs, vt, rfl, S5.bel, S5.rk, S5.ra, S5.rs.2, S5.rt.2, fun h => ⟨e1.trans (HN.out h).1, e2.trans (HN.out h).2⟩⟩
      simp [results, Yba.results9, go_sem, hc1, hc2]
  case stop =>
    rintro D c pre W hD' h hK
    exact h.elim
end Go.Proofs.Ybulkdtls
