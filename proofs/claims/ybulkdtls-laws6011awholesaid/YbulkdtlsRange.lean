import Derived.RangeFuncNested
import Derived.RangeFuncBound
import Derived.RangeFuncCalls
import Derived.RangeFuncLeaves
import Derived.WalkKit
import Derived.OwnWalkIn
namespace Go.Proofs.Ybulkdtls
open Go.RowKit

/-- How the body of a round may be left, for a law in which THE ITERATOR MAY WRITE CELLS OF ITS OWN between two rounds: 'B': behind a round that goes on; 'Bx c': behind one that leaves by the jump c. -/
def leftBy {α : Type} (D : Nat) (B : List α → World → Prop) (Bx : Code → List α → World → Prop) (xs : List α) (W : World) : Exit → Act → World → Prop
  | .normal, _, W' => KeepsFrom D W W' ∧ B xs W'
  | .ret, _, W' => KeepsFrom D W W' ∧ Bx .ret xs W'
  | .exit id, _, W' => KeepsFrom D W W' ∧ Bx (.exit id) xs W'
  | .goto t, _, W' => KeepsFrom D W W' ∧ Bx (.goto t) xs W'
  | .panic _, _, _ => False
  | .outgrown, _, _ => False

/-- An iterator of this make, called with 'yield l' in a world in which 'B []' holds: it hands yield what 'A' says, and comes to its end in 'E' (it has run out) or 'Ex c' (a round has left). R, Rx: what the loop's own record says; the iterator's stores into cells keep it. -/
def IterLaw {α : Type} (F : Fence) (n : Nat) (P : Program) (g : Nat) (lb : Array Value) (encs : α → Array Value) (A : List α → α → World → Prop) (B : List α → World → Prop) (Bx : Code → List α → World → Prop)
    (E : List α → World → Prop) (Ex : Code → List α → World → Prop) : Prop :=
  ∀ (l : Nat) (R : World → Prop) (Rx : Code → World → Prop), (∀ W a v, R W → R (W.setCell a v)) → (∀ c W a v, Rx c W → Rx c (W.setCell a v)) →
    (∀ pre x W1, A pre x W1 → R W1 → YieldAt F (n - 1) P l (encs x) W1 fun e W' =>
      (e = .returned (.bool true) ∧ B (pre ++ [x]) W' ∧ R W') ∨ (e = .returned (.bool false) ∧ ∃ c, Bx c (pre ++ [x]) W' ∧ Rx c W')) →
    ∀ W, B [] W → R W →
    CallsIn F n P g (#[.func (.yield l) #[] #[]] ++ lb) W fun e W' => (∃ v, e = .returned v) ∧ ((∃ xs, E xs W' ∧ R W') ∨ (∃ c pre, Ex c pre W' ∧ Rx c W'))

variable {F : Fence} {n : Nat} {P : Program}

theorem range_law {α : Type} {g : Operand} {ps : Array Tmp} {assign body : Code} {Q : Exit → Act → World → Prop} {a : Act} {w : World}
    (hro : F.round = none) (h1 : 1 ≤ n) {gf : Nat} {lb : Array Value} (hg : a.eval g = .func (.func gf) #[] lb) (hFg : F.fn gf) (eg : ∀ args w, (callFunc gf args).run P w = .ok (.enter gf args) w)
    {encs : α → Array Value} {A : List α → α → World → Prop} {B : List α → World → Prop} {Bx : Code → List α → World → Prop} {E : List α → World → Prop} {Ex : Code → List α → World → Prop}
    (hseq : IterLaw F (n - 1) P gf lb encs A B Bx E Ex) (hps : ∀ x, (encs x).size = ps.size)
    (oA : ∀ x, OwnFrom w.heap.size (fun pre => A pre x)) (oB : OwnFrom w.heap.size B) (oX : ∀ c, OwnFrom w.heap.size (Bx c)) (oE : OwnFrom w.heap.size E) (oY : ∀ c, OwnFrom w.heap.size (Ex c)) (h0 : B [] w) (a₁ : α → Act)
    (hassign : ∀ (l : Nat) (x : α) (W : World) (K : Act → World → Prop), K (a₁ x) W →
      assign.wpIn (F.inRound l) (n - 1 - 1) P (Exit.then K (fun _ _ _ => False)) { tmps := (ps.zip (encs x)).foldl (fun t (p, v) => t.setIfInBounds p v) a.tmps, defers := [] } W)
    (hbody : ∀ (l : Nat) (pre : List α) (x : α) (W : World), A pre x W → body.wpIn (F.inRound l) (n - 1 - 1) P (leftBy w.heap.size B Bx (pre ++ [x]) W) (a₁ x) W)
    (hdone : ∀ (D : Nat) (xs : List α) (W : World), w.heap.size ≤ D → E xs W → W.heap[D]? = some (.deferred (some [])) → Q .normal { a with defers := { target := .collected D, args := #[] } :: a.defers } W)
    (hstop : ∀ (D : Nat) (c : Code) (pre : List α) (W : World), w.heap.size ≤ D → Ex c pre W → W.heap[D]? = some (.deferred (some [])) → c.wpIn F n P Q { a with defers := { target := .collected D, args := #[] } :: a.defers } W) :
    (Code.rangeFunc g ps assign body).wpIn F n P Q a w := by
  refine wpIn_rangeFunc fun fn hfn => ?_
  rw [hro]
  -- the record that the statement lays, and the world behind it
  let r0 : Loop := { state := .ready, pending := none, fn, tmps := a.tmps, params := ps, assign, body, defers := w.heap.size }
  have hsz : (w.alloc (.deferred (some []))).heap.size = w.heap.size + 1 := World.size_alloc _ _
  have hrec : ((w.alloc (.deferred (some []))).alloc (.loop r0)).heap[w.heap.size + 1]? = some (.loop r0) := by
    have := World.alloc_heap_new (w.alloc (.deferred (some []))) (.loop r0)
    rwa [hsz] at this
  have hdef : ((w.alloc (.deferred (some []))).alloc (.loop r0)).heap[w.heap.size]? = some (.deferred (some [])) :=
    (Below.heap_alloc _ _ _ (by rw [hsz]; omega)).trans (World.alloc_heap_new w _)
  have hB0 : B [] ((w.alloc (.deferred (some []))).alloc (.loop r0)) := oB.alloc _ (oB.alloc _ h0)
  refine ⟨w.heap.size + 1, [{ target := .collected w.heap.size, args := #[] }], _, { target := .fn (.func gf) lb, args := #[.func (.yield (w.heap.size + 1)) #[] #[]] }, _, gf,
    #[.func (.yield (w.heap.size + 1)) #[] #[]] ++ lb, _, run_enterLoop_outer _ _ _ _ _, by simp only [resolve, hg]; simp [go_sem]; rfl, fun f' hf' => ?_, by simp [invoke, go_sem, eg]; rfl, fun _ => h1, ?_⟩
  · simp [Target.leads] at hf'; subst hf'; exact hFg
  refine (hseq (w.heap.size + 1) (fun W => W.heap[w.heap.size + 1]? = some (.loop r0) ∧ W.heap[w.heap.size]? = some (.deferred (some [])))
    (fun c W => W.heap[w.heap.size + 1]? = some (.loop { r0 with state := .done, pending := some c }) ∧ W.heap[w.heap.size]? = some (.deferred (some [])))
    (fun W x v h => ⟨(KeepsOthers.setCell W x v).same _ _ h.1 rfl, (KeepsOthers.setCell W x v).same _ _ h.2 rfl⟩)
    (fun c W x v h => ⟨(KeepsOthers.setCell W x v).same _ _ h.1 rfl, (KeepsOthers.setCell W x v).same _ _ h.2 rfl⟩) ?_ _ hB0 ⟨hrec, hdef⟩).mono ?_
  · -- one round
    rintro pre x W hA ⟨hl, hk⟩
    have hlt : w.heap.size + 1 < W.heap.size := (Array.getElem?_eq_some_iff.1 hl).1
    refine ⟨fn, _, assign, body, run_yield (P := P) (args := encs x) hl (hps x), roundIn_of_wpIn hfn (hassign _ x W _ ⟨_, run_beginRound hl rfl, ?_⟩)⟩
    have hl2 : (W.putObj (w.heap.size + 1) (.loop { r0 with state := .busy })).heap[w.heap.size + 1]? = some (.loop { r0 with state := .busy }) := World.putObj_heap_same hlt
    have hk2 : (W.putObj (w.heap.size + 1) (.loop { r0 with state := .busy })).heap[w.heap.size]? = some (.deferred (some [])) := (World.putObj_heap_other (by omega)).trans hk
    refine wpIn_mono (hbody _ pre x _ (OwnFrom.putObj (oA x) _ hA (by omega) hl rfl)) ?_
    have go_on : ∀ W3 : World, KeepsFrom w.heap.size (W.putObj (w.heap.size + 1) (.loop { r0 with state := .busy })) W3 → W3.heap[w.heap.size + 1]? = some (.loop { r0 with state := .busy }) ∧ w.heap.size + 1 < W3.heap.size ∧
        ∀ o, (W3.putObj (w.heap.size + 1) o).heap[w.heap.size + 1]? = some o ∧ (W3.putObj (w.heap.size + 1) o).heap[w.heap.size]? = some (.deferred (some [])) := fun W3 h3 => by
      have hl3 := h3.same (w.heap.size + 1) _ (by omega) hl2 rfl
      have hlt3 := (Array.getElem?_eq_some_iff.1 hl3).1
      exact ⟨hl3, hlt3, fun o => ⟨World.putObj_heap_same hlt3, (World.putObj_heap_other (by omega)).trans (h3.same _ _ (Nat.le_refl _) hk2 rfl)⟩⟩
    have leaves : ∀ (c : Code) (W3 : World), KeepsFrom w.heap.size (W.putObj (w.heap.size + 1) (.loop { r0 with state := .busy })) W3 → Bx c (pre ++ [x]) W3 →
        ∃ v W', (Instr.endRound (w.heap.size + 1) (some c)).run P W3 = .ok v W' ∧
          ((Ending.returned v = .returned (.bool true) ∧ B (pre ++ [x]) W' ∧ W'.heap[w.heap.size + 1]? = some (.loop r0) ∧ W'.heap[w.heap.size]? = some (.deferred (some []))) ∨
           (Ending.returned v = .returned (.bool false) ∧ ∃ c, Bx c (pre ++ [x]) W' ∧ W'.heap[w.heap.size + 1]? = some (.loop { r0 with state := .done, pending := some c }) ∧ W'.heap[w.heap.size]? = some (.deferred (some [])))) := fun c W3 h3 hb => by
      obtain ⟨hl3, _, hp⟩ := go_on W3 h3
      exact ⟨_, _, run_endRound (P := P) (some c) hl3, .inr ⟨rfl, c, (oX c).putObj _ hb (by omega) hl3 rfl, (hp _).1, (hp _).2⟩⟩
    rintro e a3 W3 hp
    cases e with
    | normal =>
      obtain ⟨hl3, _, hq⟩ := go_on W3 hp.1
      exact ⟨_, _, run_endRound (P := P) none hl3, .inl ⟨rfl, oB.putObj _ hp.2 (by omega) hl3 rfl, (hq _).1, (hq _).2⟩⟩
    | ret => exact leaves .ret W3 hp.1 hp.2
    | exit id => exact leaves (.exit id) W3 hp.1 hp.2
    | goto t => exact leaves (.goto t) W3 hp.1 hp.2
    | panic ch => exact hp.elim
    | outgrown => exact hp.elim
  · -- behind the iterator
    rintro e W2 ⟨⟨v, rfl⟩, (⟨xs, hE, hl, hk⟩ | ⟨c, pre, hE, hl, hk⟩)⟩
    · exact ⟨none, _, run_endLoop (P := P) hl (by simp [r0]), hdone _ xs _ (Nat.le_refl _) (oE.putObj _ hE (by omega) hl rfl) ((World.putObj_heap_other (by omega)).trans hk)⟩
    · exact ⟨some c, _, run_endLoop (P := P) hl (by simp), hstop _ c pre _ (Nat.le_refl _) ((oY c).putObj _ hE (by omega) hl rfl) ((World.putObj_heap_other (by omega)).trans hk)⟩
end Go.Proofs.Ybulkdtls
