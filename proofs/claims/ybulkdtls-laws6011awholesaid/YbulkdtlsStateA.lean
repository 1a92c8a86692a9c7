import Derived.Test.YbulkdtlsKeyA
import Derived.Test.YbulkdtlsRange
namespace Go.Proofs.Ybulkdtls
open Go.RowKit

/-- From W to W' nothing but the blocks of S has turned (and new blocks were made). -/
structure Touched (S : Nat → Prop) (W W' : World) : Prop where
  os : W'.os = W.os
  tape : W'.tape = W.tape
  output : W'.output = W.output
  size : W.heap.size ≤ W'.heap.size
  block : ∀ k, k < W.heap.size → ¬ S k → W'.heap[k]? = W.heap[k]?

theorem Touched.boxed {S : Nat → Prop} {W W' : World} (h : Touched S W W') {B : Nat} {t : TypeId} {v : Value} (hb : Boxed W B t v) (hn : ¬ S B) : Boxed W' B t v := (h.block B hb.lt hn).trans hb
theorem Touched.row {S : Nat → Prop} {W W' : World} (h : Touched S W W') {base : Nat} {e : TypeId} {size : Nat} {v : Value} {n : Nat} {xs : List Value} (hr : W.ownsRow base e size v n xs) (hn : ∀ g, v.ownBlock = some g → ¬ S g) : W'.ownsRow base e size v n xs := by
  refine ⟨hr.1, ?_⟩
  rcases hr.2 with h1 | ⟨g, cap, cur, rfl, hb, hg, hrest⟩
  · exact .inl h1
  · exact .inr ⟨g, cap, cur, rfl, hb, (h.block g (Array.getElem?_eq_some_iff.1 hg).1 (hn g rfl)).trans hg, hrest⟩
theorem Touched.below {S : Nat → Prop} {W0 W W' : World} (h : Touched S W W') {B : Nat} (h0 : Below B W0 W) (hB : B ≤ W.heap.size) (hS : ∀ k, S k → B ≤ k) : Below B W0 W' :=
  ⟨h.os.trans h0.os, h.tape.trans h0.tape, h.output.trans h0.output, Nat.le_trans h0.size h.size, fun k hk => (h.block k (by omega) (fun hs => by have := hS k hs; omega)).trans (h0.block k hk)⟩
theorem Touched.map {H : Type} {S : Nat → Prop} {W W' : World} (h : Touched S W W') {P : Program} {k : TypeId} {R : Value → Option (DataW H × List MemPlace)} {b n : Nat} {D : DataW H} (hm : W.ownsMap P k R b n D) (hn : ¬ S b) : W'.ownsMap P k R b n D := by
  obtain ⟨es, ck, hb, rest⟩ := hm
  exact ⟨es, ck, (h.block b (Array.getElem?_eq_some_iff.1 hb).1 hn).trans hb, rest⟩

theorem Touched.of_grown {W W' : World} {row : Option Nat} (hg : W.grownBy W' row) : Touched (fun k => some k = row) W W' := ⟨hg.os, hg.tape, hg.output, hg.size, fun k hk hs => hg.block k hk hs⟩

/-- A variable of type []int at g, and the row that it owns. -/
def Log (W : World) (base g : Nat) (v : Value) (xs : List Int) : Prop := Boxed W g 22 v ∧ W.ownsRow base 3 1 v xs.length (xs.map (Value.int .i64))
def Apart (u v : Value) : Prop := ∀ g, u.ownBlock = some g → v.ownBlock ≠ some g
theorem Apart.symm {u v : Value} (h : Apart u v) : Apart v u := fun g h1 h2 => h g h2 h1

theorem AppTo.touched {n₀ g : Nat} {v v' : Value} {xs : List Int} {x : Int} {W W' : World} (h : AppTo n₀ g v v' xs x W W') : Touched (fun k => k = g ∨ v.ownBlock = some k) W W' := by
  obtain ⟨w1, tmp, _, hg, _, rfl⟩ := h
  have hs := grownBy_setCell' w1 g v'
  refine ⟨hs.os.trans hg.os, hs.tape.trans hg.tape, hs.output.trans hg.output, ?_, fun k hk hn => ?_⟩
  · have h1 := hg.size
    have h2 := hs.size
    simp at h1
    omega
  · have h1 : k < (W.alloc tmp).heap.size := by simp; omega
    refine (hs.block k (Nat.lt_of_lt_of_le h1 hg.size) (fun e => hn (.inl (by injection e)))).trans ((hg.block k h1 (fun e => hn (.inr e.symm))).trans (Below.heap_alloc _ _ _ hk))

/-- The variable that was appended to. -/
theorem AppTo.log {n₀ g : Nat} {v v' : Value} {xs : List Int} {x : Int} {W W' : World} (h : AppTo n₀ g v v' xs x W W') (hl : Log W n₀ g v xs) :
    Log W' n₀ g v' (xs ++ [x]) ∧ ∀ u b ys, Log W n₀ b u ys → Apart v u → Apart v' u := by
  obtain ⟨w1, tmp, ho, hg, hat, rfl⟩ := h
  have hv1 : Boxed w1 g 22 v := (hl.1.alloc tmp).kept hg (hl.1.not_row (by decide) hl.2)
  refine ⟨⟨hv1.set v', by simpa using ho.kept (grownBy_setCell' w1 g v') (.inr (hv1.not_row (by decide) ho).symm)⟩, fun u b ys hu hap k hk => ?_⟩
  rcases hat with e | e
  · exact hap k (by rw [← e]; exact hk)
  · intro hk2
    have := (hu.2.lt k hk2).2
    rw [e] at hk
    simp at hk
    omega
theorem Touched.log {S : Nat → Prop} {W W' : World} (h : Touched S W W') {base g : Nat} {v : Value} {xs : List Int} (hl : Log W base g v xs) (h1 : ¬ S g) (h2 : ∀ k, v.ownBlock = some k → ¬ S k) : Log W' base g v xs := ⟨h.boxed hl.1 h1, h.row hl.2 h2⟩

theorem AppTo.keeps {n₀ g : Nat} {v v' : Value} {xs : List Int} {x : Int} {W W' : World} (h : AppTo n₀ g v v' xs x W W') (hl : Log W n₀ g v xs) : KeepsOthers W W' := by
  refine ⟨h.touched.size, fun k o hk ho => (h.touched.block k (Array.getElem?_eq_some_iff.1 hk).1 ?_).trans hk⟩
  rintro (rfl | e)
  · have e1 := hk.symm.trans (show W.heap[k]? = _ from hl.1)
    cases e1; cases ho
  · rcases hl.2.2 with ⟨rfl, _⟩ | ⟨g', cap, cur, rfl, _, hg, _⟩
    · cases e
    · obtain rfl : g' = k := by simpa [Value.ownBlock] using e
      have e1 := hk.symm.trans hg
      cases e1; cases ho

/-- A box of another type than int, or another []int variable, is none of what an append touches. -/
theorem untouched {W : World} {n₀ g B : Nat} {v u : Value} {t : TypeId} {xs : List Int} (hl : Log W n₀ g v xs) (hb : Boxed W B t u) (ht : t ≠ 3) (hne : B ≠ g) : ¬ (B = g ∨ v.ownBlock = some B) := by
  rintro (h | h)
  · exact hne h
  · exact hb.not_row ht hl.2 h.symm

/-- Another variable, apart from it, stays. -/
theorem AppTo.other {n₀ g : Nat} {v v' : Value} {xs : List Int} {x : Int} {W W' : World} (h : AppTo n₀ g v v' xs x W W') (hl : Log W n₀ g v xs) {b : Nat} {u : Value} {ys : List Int} (hu : Log W n₀ b u ys) (hne : b ≠ g) (hap : Apart v u) : Log W' n₀ b u ys := by
  refine h.touched.log hu (untouched hl hu.1 (by decide) hne) ?_
  rintro k hk (rfl | e)
  · exact hl.1.not_row (by decide) hu.2 hk.symm
  · exact hap k e hk
theorem AppTo.box {n₀ g : Nat} {v v' : Value} {xs : List Int} {x : Int} {W W' : World} (h : AppTo n₀ g v v' xs x W W') (hl : Log W n₀ g v xs) {B : Nat} {t : TypeId} {u : Value} (hb : Boxed W B t u) (ht : t ≠ 3) (hne : B ≠ g) : Boxed W' B t u := h.touched.boxed hb (untouched hl hb ht hne)
theorem AppTo.below {n₀ g : Nat} {v v' : Value} {xs : List Int} {x : Int} {W0 W W' : World} (h : AppTo n₀ g v v' xs x W W') (hl : Log W n₀ g v xs) (hn : n₀ ≤ g) (h0 : Below n₀ W0 W) : Below n₀ W0 W' := by
  have := hl.1.lt
  refine h.touched.below h0 (by omega) ?_
  rintro k (rfl | e)
  · exact hn
  · exact (hl.2.lt k e).1
theorem AppTo.map {H : Type} {n₀ g : Nat} {v v' : Value} {xs : List Int} {x : Int} {W W' : World} (h : AppTo n₀ g v v' xs x W W') (hl : Log W n₀ g v xs) {P : Program} {k : TypeId} {R : Value → Option (DataW H × List MemPlace)} {b n : Nat} {D : DataW H} (hm : W.ownsMap P k R b n D) : W'.ownsMap P k R b n D := by
  obtain ⟨es, ck, hb, rest⟩ := hm
  exact ⟨es, ck, (h.keeps hl).same b _ hb rfl, rest⟩

/-- WHAT STANDS between two rounds. -/
structure SA (w0 : World) (gk ga gs gt gK gA gM gmap : Nat) (fK fA : Value) (W : World) (xk xa xs xt : List Int) (n : Nat) (D : DataW Unit) : Prop where
  bel : Below gk w0 W
  rows : ∃ vk va vs vt, (Log W gk gk vk xk ∧ Log W gk ga va xa ∧ Log W gk gs vs xs ∧ Log W gk gt vt xt) ∧ Apart vk va ∧ Apart vk vs ∧ Apart vk vt ∧ Apart va vs ∧ Apart va vt ∧ Apart vs vt
  bK : Boxed W gK 27 fK
  bA : Boxed W gA 28 fA
  bM : Boxed W gM 39 (.map (some gmap))
  om : W.ownsMap Yba.prog 3 (plainElem (H := Unit) Yba.prog 3) gmap n D

section
variable {w0 W W' : World} {gk ga gs gt gK gA gM gmap : Nat} {fK fA : Value} {xk xa xs xt : List Int} {n : Nat} {D : DataW Unit}

theorem SA.grown (h : SA w0 gk ga gs gt gK gA gM gmap fK fA W xk xa xs xt n D) {B : Nat} {row : Option Nat} (hmap : gmap < B) (hkB : gk ≤ B) (hg : W.grownBy W' row) (hr : ∀ r, row = some r → B ≤ r ∧ ∃ o : Obj, W.heap[r]? = some o ∧ o.isCells = false) : SA w0 gk ga gs gt gK gA gM gmap fK fA W' xk xa xs xt n D := by
  have T := Touched.of_grown hg
  have nb : ∀ (b : Nat) (t : TypeId) (v : Value), Boxed W b t v → ¬ (some b = row) := fun b t v hb e => by
    obtain ⟨o, ho, hc⟩ := (hr b e.symm).2
    rw [show W.heap[b]? = _ from hb] at ho; cases ho; cases hc
  have nl : ∀ (b : Nat) (v : Value) (ys : List Int), Log W gk b v ys → Log W' gk b v ys := fun b v ys hl => by
    refine T.log hl (nb _ _ _ hl.1) fun k hk e => ?_
    obtain ⟨o, ho, hc⟩ := (hr k e.symm).2
    rcases hl.2.2 with ⟨rfl, _⟩ | ⟨g', cap, cur, rfl, _, hg, _⟩
    · cases hk
    · obtain rfl : g' = k := by simpa [Value.ownBlock] using hk
      rw [hg] at ho; cases ho; cases hc
  obtain ⟨h1, ⟨vk, va, vs, vt, ⟨r1, r2, r3, r4⟩, ap⟩, h3, h4, h5, h6⟩ := h
  have hk := r1.1.lt
  exact ⟨T.below h1 (by omega) (fun k e => by have := (hr k e.symm).1; omega), ⟨vk, va, vs, vt, ⟨nl _ _ _ r1, nl _ _ _ r2, nl _ _ _ r3, nl _ _ _ r4⟩, ap⟩, T.boxed h3 (nb _ _ _ h3), T.boxed h4 (nb _ _ _ h4), T.boxed h5 (nb _ _ _ h5), T.map h6 (fun e => by have := (hr _ e.symm).1; omega)⟩
end

/-- The places lie in this order. -/
structure Ord (gk ga gs gt gK gA gM : Nat) : Prop where
  o1 : gk < ga
  o2 : ga < gK
  o3 : gK < gA
  o4 : gA < gs
  o5 : gs < gt
  o6 : gt < gM

section
variable {w0 W W' : World} {gk ga gs gt gK gA gM gmap : Nat} {fK fA : Value} {xk xa xs xt : List Int} {n : Nat} {D : DataW Unit} {x : Int}
variable {vk va vs vt v' : Value}

/-- The same with the values said. -/
structure SV (w0 : World) (gk ga gs gt gK gA gM gmap : Nat) (fK fA : Value) (W : World) (vk va vs vt : Value) (xk xa xs xt : List Int) (n : Nat) (D : DataW Unit) : Prop where
  bel : Below gk w0 W
  rk : Log W gk gk vk xk
  ra : Log W gk ga va xa
  rs : Log W gk gs vs xs
  rt : Log W gk gt vt xt
  a1 : Apart vk va
  a2 : Apart vk vs
  a3 : Apart vk vt
  a4 : Apart va vs
  a5 : Apart va vt
  a6 : Apart vs vt
  bK : Boxed W gK 27 fK
  bA : Boxed W gA 28 fA
  bM : Boxed W gM 39 (.map (some gmap))
  om : W.ownsMap Yba.prog 3 (plainElem (H := Unit) Yba.prog 3) gmap n D

theorem SA.open_ (h : SA w0 gk ga gs gt gK gA gM gmap fK fA W xk xa xs xt n D) : ∃ vk va vs vt, SV w0 gk ga gs gt gK gA gM gmap fK fA W vk va vs vt xk xa xs xt n D := by
  obtain ⟨h1, ⟨vk, va, vs, vt, ⟨r1, r2, r3, r4⟩, a1, a2, a3, a4, a5, a6⟩, h3, h4, h5, h6⟩ := h
  exact ⟨vk, va, vs, vt, h1, r1, r2, r3, r4, a1, a2, a3, a4, a5, a6, h3, h4, h5, h6⟩
theorem SV.shut (h : SV w0 gk ga gs gt gK gA gM gmap fK fA W vk va vs vt xk xa xs xt n D) : SA w0 gk ga gs gt gK gA gM gmap fK fA W xk xa xs xt n D :=
  ⟨h.bel, ⟨vk, va, vs, vt, ⟨h.rk, h.ra, h.rs, h.rt⟩, h.a1, h.a2, h.a3, h.a4, h.a5, h.a6⟩, h.bK, h.bA, h.bM, h.om⟩

theorem SV.key (h : SV w0 gk ga gs gt gK gA gM gmap fK fA W vk va vs vt xk xa xs xt n D) (o : Ord gk ga gs gt gK gA gM) (hA : AppTo gk gk vk v' xk x W W') : SV w0 gk ga gs gt gK gA gM gmap fK fA W' v' va vs vt (xk ++ [x]) xa xs xt n D := by
  obtain ⟨o1, o2, o3, o4, o5, o6⟩ := o
  obtain ⟨hl, hap⟩ := hA.log h.rk
  exact ⟨hA.below h.rk (by omega) h.bel, hl, hA.other h.rk h.ra (by omega) h.a1, hA.other h.rk h.rs (by omega) h.a2, hA.other h.rk h.rt (by omega) h.a3, hap _ _ _ h.ra h.a1, hap _ _ _ h.rs h.a2, hap _ _ _ h.rt h.a3, h.a4, h.a5, h.a6,
    hA.box h.rk h.bK (by decide) (by omega), hA.box h.rk h.bA (by decide) (by omega), hA.box h.rk h.bM (by decide) (by omega), hA.map h.rk h.om⟩
theorem SV.add (h : SV w0 gk ga gs gt gK gA gM gmap fK fA W vk va vs vt xk xa xs xt n D) (o : Ord gk ga gs gt gK gA gM) (hA : AppTo gk ga va v' xa x W W') : SV w0 gk ga gs gt gK gA gM gmap fK fA W' vk v' vs vt xk (xa ++ [x]) xs xt n D := by
  obtain ⟨o1, o2, o3, o4, o5, o6⟩ := o
  obtain ⟨hl, hap⟩ := hA.log h.ra
  exact ⟨hA.below h.ra (by omega) h.bel, hA.other h.ra h.rk (by omega) h.a1.symm, hl, hA.other h.ra h.rs (by omega) h.a4, hA.other h.ra h.rt (by omega) h.a5, (hap _ _ _ h.rk h.a1.symm).symm, h.a2, h.a3, hap _ _ _ h.rs h.a4, hap _ _ _ h.rt h.a5, h.a6,
    hA.box h.ra h.bK (by decide) (by omega), hA.box h.ra h.bA (by decide) (by omega), hA.box h.ra h.bM (by decide) (by omega), hA.map h.ra h.om⟩
theorem SV.keys (h : SV w0 gk ga gs gt gK gA gM gmap fK fA W vk va vs vt xk xa xs xt n D) (o : Ord gk ga gs gt gK gA gM) (hA : AppTo gk gs vs v' xs x W W') : SV w0 gk ga gs gt gK gA gM gmap fK fA W' vk va v' vt xk xa (xs ++ [x]) xt n D := by
  obtain ⟨o1, o2, o3, o4, o5, o6⟩ := o
  obtain ⟨hl, hap⟩ := hA.log h.rs
  exact ⟨hA.below h.rs (by omega) h.bel, hA.other h.rs h.rk (by omega) h.a2.symm, hA.other h.rs h.ra (by omega) h.a4.symm, hl, hA.other h.rs h.rt (by omega) h.a6, h.a1, (hap _ _ _ h.rk h.a2.symm).symm, h.a3, (hap _ _ _ h.ra h.a4.symm).symm, h.a5, hap _ _ _ h.rt h.a6,
    hA.box h.rs h.bK (by decide) (by omega), hA.box h.rs h.bA (by decide) (by omega), hA.box h.rs h.bM (by decide) (by omega), hA.map h.rs h.om⟩
theorem SV.accs (h : SV w0 gk ga gs gt gK gA gM gmap fK fA W vk va vs vt xk xa xs xt n D) (o : Ord gk ga gs gt gK gA gM) (hA : AppTo gk gt vt v' xt x W W') : SV w0 gk ga gs gt gK gA gM gmap fK fA W' vk va vs v' xk xa xs (xt ++ [x]) n D := by
  obtain ⟨o1, o2, o3, o4, o5, o6⟩ := o
  obtain ⟨hl, hap⟩ := hA.log h.rt
  exact ⟨hA.below h.rt (by omega) h.bel, hA.other h.rt h.rk (by omega) h.a3.symm, hA.other h.rt h.ra (by omega) h.a5.symm, hA.other h.rt h.rs (by omega) h.a6.symm, hl, h.a1, h.a2, (hap _ _ _ h.rk h.a3.symm).symm, h.a4, (hap _ _ _ h.ra h.a5.symm).symm, (hap _ _ _ h.rs h.a6.symm).symm,
    hA.box h.rt h.bK (by decide) (by omega), hA.box h.rt h.bA (by decide) (by omega), hA.box h.rt h.bM (by decide) (by omega), hA.map h.rt h.om⟩
/-- The store into the map. -/
theorem SV.noted (h : SV w0 gk ga gs gt gK gA gM gmap fK fA W vk va vs vt xk xa xs xt n D) {n' : Nat} {D' : DataW Unit} (hk : gk ≤ gmap) (hm : W'.ownsMap Yba.prog 3 (plainElem (H := Unit) Yba.prog 3) gmap n' D') (hg : W.grownBy W' (some gmap)) : SV w0 gk ga gs gt gK gA gM gmap fK fA W' vk va vs vt xk xa xs xt n' D' := by
  have T := Touched.of_grown hg
  have hmc := h.om
  obtain ⟨es, ck, hb, _⟩ := hmc
  have nb : ∀ (b : Nat) (t : TypeId) (v : Value), Boxed W b t v → ¬ (some b = some gmap) := fun b t v hb' e => by
    injection e with e; subst e
    rw [show W.heap[b]? = _ from hb'] at hb; cases hb
  have nl : ∀ (b : Nat) (v : Value) (ys : List Int), Log W gk b v ys → Log W' gk b v ys := fun b v ys hl => by
    refine T.log hl (nb _ _ _ hl.1) fun k hk e => ?_
    injection e with e; subst e
    rcases hl.2.2 with ⟨rfl, _⟩ | ⟨g', cap, cur, rfl, _, hgb, _⟩
    · cases hk
    · obtain rfl : g' = k := by simpa [Value.ownBlock] using hk
      rw [hgb] at hb; cases hb
  have hlt := h.rk.1.lt
  exact ⟨T.below h.bel (by omega) (fun k e => by injection e with e; omega), nl _ _ _ h.rk, nl _ _ _ h.ra, nl _ _ _ h.rs, nl _ _ _ h.rt, h.a1, h.a2, h.a3, h.a4, h.a5, h.a6, T.boxed h.bK (nb _ _ _ h.bK), T.boxed h.bA (nb _ _ _ h.bA), T.boxed h.bM (nb _ _ _ h.bM), hm⟩
/-- The store into accs. -/
theorem SV.stored {g cap : Nat} (h : SV w0 gk ga gs gt gK gA gM gmap fK fA W vk va vs (.slice (some ⟨g, 0, none⟩) xt.length cap) xk xa xs xt n D) (j : Nat) (y : Int) : SV w0 gk ga gs gt gK gA gM gmap fK fA (W.setCell ⟨g, j, none⟩ (.int .i64 y)) vk va vs (.slice (some ⟨g, 0, none⟩) xt.length cap) xk xa xs (xt.set j y) n D := by
  obtain ⟨hst, hg⟩ := h.rt.2.stored j (.int .i64 y)
  have T := Touched.of_grown hg
  have nb : ∀ (b : Nat) (t : TypeId) (v : Value), t ≠ 3 → Boxed W b t v → ¬ (some b = some g) := fun b t v ht hb' e => hb'.not_row ht h.rt.2 (by simpa [Value.ownBlock] using e)
  have nl : ∀ (b : Nat) (v : Value) (ys : List Int), Log W gk b v ys → Apart v (.slice (some ⟨g, 0, none⟩) xt.length cap) → Log (W.setCell ⟨g, j, none⟩ (.int .i64 y)) gk b v ys := fun b v ys hl hap => by
    refine T.log hl (nb _ _ _ (by decide) hl.1) fun k hk e => hap k hk (by injection e with e; simp [Value.ownBlock, e])
  have hlt := h.rk.1.lt
  refine ⟨T.below h.bel (by omega) (fun k e => by have := (h.rt.2.lt g rfl).1; injection e with e; omega), nl _ _ _ h.rk h.a3, nl _ _ _ h.ra h.a5, nl _ _ _ h.rs h.a6, ⟨T.boxed h.rt.1 (nb _ _ _ (by decide) h.rt.1), by simpa [List.map_set] using hst⟩, h.a1, h.a2, h.a3, h.a4, h.a5, h.a6, T.boxed h.bK (nb _ _ _ (by decide) h.bK), T.boxed h.bA (nb _ _ _ (by decide) h.bA), T.boxed h.bM (nb _ _ _ (by decide) h.bM), h.om.kept hg (fun e => ?_)⟩
  obtain ⟨es, ck, hb, _⟩ := h.om
  injection e with e
  subst e
  rcases h.rt.2.2 with ⟨h1, _⟩ | ⟨g', cap, cur, h1, _, hg, _⟩
  · cases h1
  · cases h1
    rw [hg] at hb; cases hb
end
end Go.Proofs.Ybulkdtls
