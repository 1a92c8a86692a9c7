import Derived.OrdersIn
import Derived.OwnWalkIn
import Derived.TacticsIn
namespace Go.Proofs.Ybulkdtls

/-! TAKING AN OPERATION FIRST, IN A ROUND TOO, AND ALSO ONE THAT READS: in every world that C lets it yields one value. fin: the operation that comes last of all (behind it C may fail). The library has the law for operations that read nothing, outside a round (Derived/OrdersIn, wpAnyIn_take); its small lemmas serve here too. -/
section
variable {F : Fence} {n : Nat} {P : Program} {md : Region.Mode} {ops : Array Oper} {Q : Exit → Act → World → Prop} {C : World → Prop} {fin : Nat}

def wpAnyC (F : Fence) (n : Nat) (P : Program) (md : Region.Mode) (ops : Array Oper) (Q : Exit → Act → World → Prop) (C : World → Prop) (fin : Nat) : Nat → Array Bool → Act → World → Prop
  | 0, listed, a, w => Region.ready md ops listed = [] ∧ Q .normal a w
  | fuel + 1, listed, a, w =>
    (Region.ready md ops listed = [] → Q .normal a w) ∧
    ∀ i ∈ Region.ready md ops listed, wpOpIn F n P ops Q i (fun a' w' => (i = fin ∨ C w') ∧ wpAnyC F n P md ops Q C fin fuel (listed.setIfInBounds i true) a' w') a w

theorem wpAnyC.any : ∀ (fuel : Nat) (listed : Array Bool) (a : Act) (w : World), wpAnyC F n P md ops Q C fin fuel listed a w → wpAnyIn F n P md ops Q fuel listed a w
  | 0, _, _, _, h => h
  | fuel + 1, _, _, _, h => ⟨h.1, fun i hi => wpOpIn_mono (fun a w h' => wpAnyC.any fuel _ a w h'.2) (h.2 i hi)⟩

def YieldsC (P : Program) (ops : Array Oper) (C : World → Prop) (o : Oper) (v : Value) (a : Act) : Prop :=
  Region.wanted o (yielded ops a.tmps) = true ∧ (∀ w, C w → (execOp a.eval o).run P w = .ok (.value v) w) ∧ ∀ w, o.about P w a.eval = none

theorem YieldsC.of_same {o : Oper} {v : Value} {a a' : Act} (hy : YieldsC P ops C o v a) (he : execOp a'.eval o = execOp a.eval o)
    (hw : Region.wanted o (yielded ops a'.tmps) = Region.wanted o (yielded ops a.tmps)) (hb : ∀ w, o.about P w a'.eval = o.about P w a.eval) : YieldsC P ops C o v a' :=
  ⟨by rw [hw]; exact hy.1, fun w hc => by rw [he]; exact hy.2.1 w hc, fun w => by rw [hb w]; exact hy.2.2 w⟩

theorem YieldsC.op {i : Nat} {o : Oper} {v : Value} {a : Act} (hnd : ∀ c, o.op ≠ .defer c) (hi : ops[i]? = some o) (hy : YieldsC P ops C o v a)
    {K : Act → World → Prop} {w : World} (hc : C w) (h : K (a.put o.dst v) w) : wpOpIn F n P ops Q i K a w := by
  unfold Go.wpOpIn
  simp only [hi]
  have hab : ∀ f, o.about P w a.eval = some f → F.fn f := fun f hf => by rw [hy.2.2 w] at hf; cases hf
  simp only [hy.1, if_true, Oper.wpIn, Oper.semAt_plain F _ _ hnd, hy.2.1 w hc, Oper.uponIn]
  exact ⟨hab, h⟩

/-- What an operation's outcome asks, carried from one state to another. -/
theorem upon_put {o : Oper} {x y : Act} {K N : Act → World → Prop} (hv : ∀ u w, K (x.put o.dst u) w → N (y.put o.dst u) w) (hd : ∀ d u w, K ({ x with defers := d :: x.defers }.put o.dst u) w → N ({ y with defers := d :: y.defers }.put o.dst u) w)
    (hq : ∀ c w, Q (.panic c) x w → Q (.panic c) y w) : ∀ r, Oper.uponIn F n P o x K Q r → Oper.uponIn F n P o y N Q r
  | .ok (.value u) w, h => hv u w h
  | .ok .skip w, h => hv undef w h
  | .ok (.defer d) w, h => hd d undef w h
  | .ok (.enter _ _) _, h => ⟨h.1, CallsIn.mono h.2 fun e w he => match e, he with
      | .returned u, he => hv u w he
      | .panicked c, he => hq c w he
      | .outgrown, he => he⟩
  | .ok (.row _ _) _, h => ⟨h.1, RowsIn.mono h.2 fun u w he => hv u w he⟩
  | .ok (.round _ _ _ _ _) _, h => ⟨h.1, RoundIn.mono h.2 fun e w he => match e, he with
      | .returned u, he => hv u w he
      | .panicked c, he => hq c w he
      | .outgrown, he => he⟩
  | .halt (.panic _) w, h => hq _ w h

/-- An operation that neither reads what oi lays nor lays what oi reads may come up ahead of it. -/
theorem wpOpIn_putC {j : Nat} {oi oj : Oper} {v : Value} (hnd : ∀ c, oj.op ≠ .defer c) (hj : ops[j]? = some oj) (hap : oi.apart ops oj = true)
    (hsi : ∀ cs b, oi.op ≠ .select cs b) (hsj : ∀ cs b, oj.op ≠ .select cs b)
    (hQ : ∀ c a w, Q (.panic c) (a.put oi.dst v) w → Q (.panic c) a w) {K : Act → World → Prop} {a : Act} {w : World}
    (hy : YieldsC P ops C oi v a) (h : wpOpIn F n P ops Q j K (a.put oi.dst v) w) :
    wpOpIn F n P ops Q j (fun a' w' => YieldsC P ops C oi v a' ∧ K (a'.put oi.dst v) w') a w := by
  obtain ⟨reads, ne, lays⟩ := Oper.apart_spec hap
  have still : ∀ (b : Act), YieldsC P ops C oi v b → ∀ u, YieldsC P ops C oi v (b.put oj.dst u) := fun b hb u =>
    hb.of_same (execOp_put oi hsi b oj.dst u lays) (wanted_put oi b oj.dst u lays) (fun w => about_put oi w b oj.dst u lays)
  have one : ∀ u w', K ((a.put oi.dst v).put oj.dst u) w' → YieldsC P ops C oi v (a.put oj.dst u) ∧ K ((a.put oj.dst u).put oi.dst v) w' := fun u w' hk =>
    ⟨still a hy u, by rw [← Act.put_comm a v u ne]; exact hk⟩
  have e1 := wanted_put oj a oi.dst v reads
  have e2 := about_put (P := P) oj w a oi.dst v reads
  have e3 := execOp_put oj hsj a oi.dst v reads
  unfold wpOpIn at h ⊢
  rw [hj] at h ⊢
  dsimp only at h ⊢
  rw [e1] at h
  by_cases hw : Region.wanted oj (yielded ops a.tmps) = true
  · rw [if_pos hw] at h ⊢
    unfold Oper.wpIn at h ⊢
    rw [e2, Oper.semAt_plain F _ _ hnd, e3] at h
    rw [Oper.semAt_plain F _ _ hnd]
    refine ⟨h.1, upon_put one (fun d u w' hk => ⟨still { a with defers := d :: a.defers } (hy.of_same (a' := { a with defers := d :: a.defers }) rfl rfl fun _ => rfl) u, ?_⟩) (fun c w' hq => hQ c a w' hq) _ h.2⟩
    rw [← Act.put_comm _ v u ne, ← Act.put_defers]
    exact hk
  · rw [if_neg hw] at h ⊢
    exact ⟨fun f hf => h.1 f (by rw [e2]; exact hf), one undef w h.2⟩

/-- fin waits for i. -/
def Waits (md : Region.Mode) (ops : Array Oper) (fin i : Nat) : Bool := match ops[fin]? with | some o => o.after.any (fun e => Region.binds md e && e.on == i) | none => false
def noDefer (ops : Array Oper) : Bool := ops.all fun o => match o.op with | .defer .. => false | _ => true
theorem noDefer_spec (h : noDefer ops = true) (j : Nat) (o : Oper) (ho : ops[j]? = some o) : ∀ c, o.op ≠ .defer c := by
  intro c heq
  have := Array.all_eq_true_iff_forall_mem.1 h o (Array.mem_of_getElem? ho)
  rw [heq] at this
  cases this

theorem wpAnyC_first {i : Nat} {oi : Oper} {v : Value} (hnd : noDefer ops = true) (hi : ops[i]? = some oi) (hsel : ∀ (j : Nat) (o : Oper) cs b, ops[j]? = some o → o.op ≠ .select cs b) (hwt : Waits md ops fin i = true)
    (hQ : ∀ c a w, Q (.panic c) (a.put oi.dst v) w → Q (.panic c) a w) :
    ∀ (fuel : Nat) (listed : Array Bool) (a : Act) (w : World),
      (∀ j oj, ops[j]? = some oj → j ≠ i → listed.getD j true = false → (∀ e ∈ oj.after, Region.binds md e = true → e.on ≠ i) → oi.apart ops oj = true) →
      i ∈ Region.ready md ops listed → YieldsC P ops C oi v a → C w →
      wpAnyC F n P md ops Q C fin fuel (listed.setIfInBounds i true) (a.put oi.dst v) w → wpAnyC F n P md ops Q C fin (fuel + 1) listed a w := by
  intro fuel
  induction fuel with
  | zero =>
    intro listed a w _ hr hy hc H
    refine ⟨fun h => (by rw [h] at hr; cases hr), fun j hj => ?_⟩
    by_cases hji : j = i
    · subst hji; exact hy.op (noDefer_spec hnd j oi hi) hi hc ⟨.inr hc, H⟩
    · have := ready_mono hj hji
      rw [H.1] at this
      cases this
  | succ fuel ih =>
    intro listed a w hfree hr hy hc H
    refine ⟨fun h => (by rw [h] at hr; cases hr), fun j hj => ?_⟩
    by_cases hji : j = i
    · subst hji; exact hy.op (noDefer_spec hnd j oi hi) hi hc ⟨.inr hc, H⟩
    · have h1 := H.2 j (ready_mono hj hji)
      obtain ⟨hjun, oj, hoj, hall⟩ := mem_ready.1 hj
      have hnot : ∀ e ∈ oj.after, Region.binds md e = true → e.on ≠ i := fun e he hb heq => by
        have h1 := hall e he hb
        have h0 := (mem_ready.1 hr).1
        rw [heq] at h1
        rcases Nat.lt_or_ge i listed.size with h' | h'
        · simp [h'] at h0 h1; rw [h0] at h1; cases h1
        · simp [Array.getElem?_eq_none h'] at h1
      have hjf : j ≠ fin := by
        rintro rfl
        unfold Waits at hwt
        rw [hoj] at hwt
        obtain ⟨e, he, hb⟩ := Array.any_eq_true'.1 hwt
        rw [Bool.and_eq_true] at hb
        exact hnot e he hb.1 (by simpa using hb.2)
      have h2 := wpOpIn_putC (noDefer_spec hnd j oj hoj) hoj (hfree j oj hoj hji hjun hnot) (fun cs b => hsel i oi cs b hi) (fun cs b => hsel j oj cs b hoj) hQ hy h1
      have hfree' : ∀ k ok, ops[k]? = some ok → k ≠ i → (listed.setIfInBounds j true).getD k true = false →
          (∀ e ∈ ok.after, Region.binds md e = true → e.on ≠ i) → oi.apart ops ok = true := fun k ok hk hki hun hno => by
        refine hfree k ok hk hki ?_ hno
        by_cases hjk : j = k
        · subst hjk; exact hjun
        · rw [getD_set_ne true hjk] at hun; exact hun
      refine wpOpIn_mono (fun a' w' h3 => ?_) h2
      have hc' : C w' := h3.2.1.resolve_left hjf
      refine ⟨.inr hc', ih (listed.setIfInBounds j true) a' w' hfree' (ready_mono hr (Ne.symm hji)) h3.1 hc' ?_⟩
      rw [Array.setIfInBounds_comm _ _ hji]
      exact h3.2.2

theorem takeC {i : Nat} {oi : Oper} {v : Value} {fuel : Nat} {listed : Array Bool} {a : Act} {w : World} (hi : ops[i]? = some oi) (hs : (noDefer ops && Region.noSelect ops && Waits md ops fin i) = true)
    (hf : Region.free md ops listed i = true) (hr : (Region.ready md ops listed).contains i = true)
    (hQ : ∀ c a w, Q (.panic c) (a.put oi.dst v) w → Q (.panic c) a w) (hc : C w) (hy : YieldsC P ops C oi v a)
    (h : wpAnyC F n P md ops Q C fin fuel (listed.setIfInBounds i true) (a.put oi.dst v) w) : wpAnyC F n P md ops Q C fin (fuel + 1) listed a w := by
  simp only [Bool.and_eq_true] at hs
  exact wpAnyC_first hs.1.1 hi (Region.noSelect_spec hs.1.2) hs.2 hQ fuel listed a w (Region.free_spec hi hf) (by simpa using hr) hy hc h

/-- One operation alone may come up. -/
theorem oneC {i : Nat} {oi : Oper} {fuel : Nat} {listed : Array Bool} {a : Act} {w : World} (hr : Region.ready md ops listed = [i]) (hi : ops[i]? = some oi)
    (h : ∀ K' : Act → World → Prop, (∀ a' w', (i = fin ∨ C w') → wpAnyC F n P md ops Q C fin fuel (listed.setIfInBounds i true) a' w' → K' a' w') →
      if Region.wanted oi (yielded ops a.tmps) = true then Oper.wpIn F n P oi a w K' Q else (∀ f, oi.about P w a.eval = some f → F.fn f) ∧ K' (a.put oi.dst undef) w) : wpAnyC F n P md ops Q C fin (fuel + 1) listed a w := by
  refine ⟨fun h0 => absurd (hr.symm.trans h0) (by simp), fun j hj => ?_⟩
  rw [hr] at hj
  obtain rfl : j = i := by simpa using hj
  exact wpOpIn_step hi fun K' hK' => h K' fun a' w' h1 h2 => hK' a' w' ⟨h1, h2⟩
theorem doneC {listed : Array Bool} {a : Act} {w : World} (hr : Region.ready md ops listed = []) (h : Q .normal a w) : ∀ fuel, wpAnyC F n P md ops Q C fin fuel listed a w
  | 0 => ⟨hr, h⟩
  | _ + 1 => ⟨fun _ => h, by rw [hr]; simp⟩
end
end Go.Proofs.Ybulkdtls
