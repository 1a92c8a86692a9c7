import Derived.Test.YbulkdtlsRange
import Derived.Test.YbulkdtlsPred
import Derived.Shelf.Abstract
import Derived.Shelf.RegionOpen
import Derived.OwnWalkIn
import Derived.TacticsInMore
import Derived.LoopNIn
import Derived.LoopIn
namespace Go.Proofs.Ybulkdtls
open Go.RowKit Go.Shelf
attribute [local go_sem] Oper.semAt_some

def ints (zs : Nat → Int) (k : Nat) : List Int := (List.range k).map zs
theorem ints_succ (zs : Nat → Int) (k : Nat) : ints zs (k + 1) = ints zs k ++ [zs k] := by simp [ints, List.range_succ]

/-- WHAT STANDS, between the iterator and the loop's body: y: what the iterator has counted; st: 'stopped'; c: how often the test was called; res: Any's result cell. All that lay below gy in w0 lies as it lay. -/
structure SB (w0 : World) (gy gs gc gp gq : Nat) (fv : Value) (zs : Nat → Int) (W : World) (y : Int) (st : Bool) (c : Nat) (res : Bool) : Prop where
  bel : Below gy w0 W
  by_ : Boxed W gy 3 (.int .i64 y)
  bs : Boxed W gs 4 (.bool st)
  bc : ∃ v, Boxed W gc 22 v ∧ W.ownsRow gc 3 1 v c ((ints zs c).map (Value.int .i64))
  bp : Boxed W gp 24 fv
  bq : Boxed W gq 4 (.bool res)

section
variable {w0 W W' : World} {gy gs gc gp gq : Nat} {fv : Value} {zs : Nat → Int} {y : Int} {st : Bool} {c : Nat} {res : Bool}

/-- It speaks of cells alone. -/
theorem SB.grown (h : SB w0 gy gs gc gp gq fv zs W y st c res) {D : Nat} {row : Option Nat} (hw : gy ≤ w0.heap.size) (hD : gy ≤ D) (hg : W.grownBy W' row) (hr : ∀ r, row = some r → D ≤ r ∧ ∃ o : Obj, W.heap[r]? = some o ∧ o.isCells = false) : SB w0 gy gs gc gp gq fv zs W' y st c res := by
  obtain ⟨h1, h2, h3, h4, h5, h6⟩ := h
  have hr' : ∀ r, row = some r → ∃ o : Obj, W.heap[r]? = some o ∧ o.isCells = false := fun r e => (hr r e).2
  refine ⟨h1.grown hg (Nat.le_trans hw h1.size) (fun k e => Nat.le_trans hD (hr k e).1), boxed_own gy 3 (fun _ : Unit => _) () W W' row h2 hg hr', boxed_own gs 4 (fun _ : Unit => _) () W W' row h3 hg hr', ?_, boxed_own gp 24 (fun _ : Unit => _) () W W' row h5 hg hr', boxed_own gq 4 (fun _ : Unit => _) () W W' row h6 hg hr'⟩
  obtain ⟨v, a, b⟩ := h4
  obtain ⟨v, a, b, _⟩ := holdsRow_own (β := Unit) gc gc 22 3 1 (fun _ => c) (fun _ => (ints zs c).map (Value.int .i64)) (fun _ _ => True) () W W' row ⟨v, a, b, trivial⟩ hg hr'
  exact ⟨v, a, b⟩

/-- The iterator counts. -/
theorem SB.count (h : SB w0 gy gs gc gp gq fv zs W y st c res) (l1 : gy < gs) (l2 : gs < gc) (l3 : gc < gp) (l4 : gp < gq) (y' : Int) : SB w0 gy gs gc gp gq fv zs (W.setCell ⟨gy, 0, none⟩ (.int .i64 y')) y' st c res := by
  obtain ⟨h1, h2, h3, ⟨v, h4, h4'⟩, h5, h6⟩ := h
  refine ⟨h1.setCell (Nat.le_refl _) _, h2.set _, h3.other (by omega) _, ⟨v, h4.other (by omega) _, h4'.kept (grownBy_setCell' _ _ _) ?_⟩, h5.other (by omega) _, h6.other (by omega) _⟩
  cases hv : v.ownBlock with
  | none => exact .inl rfl
  | some k => exact .inr (fun e => by have := (h4'.lt k hv).1; injection e with e; omega)
/-- The iterator notes that it was stopped. -/
theorem SB.stop (h : SB w0 gy gs gc gp gq fv zs W y st c res) (l1 : gy < gs) (l2 : gs < gc) (l3 : gc < gp) (l4 : gp < gq) (st' : Bool) : SB w0 gy gs gc gp gq fv zs (W.setCell ⟨gs, 0, none⟩ (.bool st')) y st' c res := by
  obtain ⟨h1, h2, h3, ⟨v, h4, h4'⟩, h5, h6⟩ := h
  refine ⟨h1.setCell (by show gy ≤ gs; omega) _, h2.other (by omega) _, h3.set _, ⟨v, h4.other (by omega) _, h4'.kept (grownBy_setCell' _ _ _) ?_⟩, h5.other (by omega) _, h6.other (by omega) _⟩
  cases hv : v.ownBlock with
  | none => exact .inl rfl
  | some k => exact .inr (fun e => by have := (h4'.lt k hv).1; injection e with e; omega)
end

/-- What the loop's body makes of one element: the test says no: on; it says yes: Any returns true. -/
def goB (w0 : World) (gy gs gc gp gq : Nat) (fv : Value) (zs : Nat → Int) (m r : Int) (pre : List Nat) (W : World) : Prop :=
  ∃ k, pre = List.range k ∧ (∀ j, j < k → pz m r (zs j) = false) ∧ SB w0 gy gs gc gp gq fv zs W k false k false
def outB (w0 : World) (gy gs gc gp gq : Nat) (fv : Value) (zs : Nat → Int) (m r : Int) (st : Bool) (len : Nat) (c : Code) (pre : List Nat) (W : World) : Prop :=
  c = .ret ∧ ∃ k, k < len ∧ pre = List.range (k + 1) ∧ (∀ j, j < k → pz m r (zs j) = false) ∧ pz m r (zs k) = true ∧ SB w0 gy gs gc gp gq fv zs W ((k : Int) + 1) st (k + 1) true

set_option maxRecDepth 100000 in
set_option maxHeartbeats 2000000 in
theorem iterB (F : Fence) (n : Nat) (h11 : F.fn 11) (hro : F.round = none) (hn : 1 ≤ n) (w0 : World) (gx gy gs gc gp gq b off len cap : Nat) (sl : Option Addr) (fv : Value) (zs : Nat → Int) (m r : Int)
    (l0 : gx < gy) (l1 : gy < gs) (l2 : gs < gc) (l3 : gc < gp) (l4 : gp < gq) (hlen : len ≤ 1048576) (cx : w0.cell? ⟨gx, 0, none⟩ = some (.slice sl len cap)) (hsl : 0 < len → sl = some ⟨b, off, none⟩) (hb : 0 < len → b < gy)
    (ce : ∀ j, j < len → w0.cell? ⟨b, off + j, none⟩ = some (.int .i64 (zs j))) :
    IterLaw F n Yba.prog 11 #[.pointer (some ⟨gx, 0, none⟩), .pointer (some ⟨gy, 0, none⟩), .pointer (some ⟨gs, 0, none⟩)] (fun i : Nat => #[.int .i64 (zs i)])
      (fun pre i W => pre = List.range i ∧ i < len ∧ (∀ j, j < i → pz m r (zs j) = false) ∧ SB w0 gy gs gc gp gq fv zs W ((i : Int) + 1) false i false)
      (goB w0 gy gs gc gp gq fv zs m r) (outB w0 gy gs gc gp gq fv zs m r false len)
      (fun pre W => goB w0 gy gs gc gp gq fv zs m r pre W ∧ pre = List.range len) (outB w0 gy gs gc gp gq fv zs m r true len) := by
  intro l R Rx hset hsetx hY W hB hR
  obtain ⟨k0, e0, _, S0⟩ := hB
  obtain rfl : k0 = 0 := by
    cases k0 with
    | zero => rfl
    | succ j => simp [List.range_succ] at e0
  clear e0
  refine callsIn_of_wp Yba.func11 rfl h11 ?_ hro
  simp only [Yba.ntmps11, List.size_toArray, List.length_cons, List.length_nil, Nat.reduceAdd, Nat.reduceSub, Array.replicate_succ, Array.replicate_zero, List.push_toArray, List.append_toArray, List.nil_append, List.cons_append]
  gi_wp2
  gi_loopw [5] (fun i wr => ∃ k : Nat, k ≤ len ∧ i = .int .i64 k ∧ (∀ j, j < k → pz m r (zs j) = false) ∧ SB w0 gy gs gc gp gq fv zs wr k false k false ∧ R wr) (fun i _ => len - (intOf i).toNat)
  case atStart => exact ⟨0, Nat.zero_le _, rfl, fun j h => absurd h (by omega), S0, hR⟩
  case round =>
    obtain ⟨k, hk, rfl, hp, S, hRr⟩ := hrel
    have HP := (show Hid _ from hp)
    have HR := (show Hid _ from hRr)
    have kx := (S.bel.cell (p := ⟨gx, 0, none⟩) l0).trans cx
    clear hp hRr S0 hR cx
    by_cases hlt : k < len
    · obtain rfl := hsl (by omega)
      have ke := (S.bel.cell (p := ⟨b, off + k, none⟩) (hb (by omega))).trans (ce k hlt)
      have ky := S.by_.cell
      have kf := S.by_.frozen
      obtain ⟨fn, tmps, assign, body, hy, hRound⟩ := hY (List.range k) k (wr.setCell ⟨gy, 0, none⟩ (.int .i64 ((k : Int) + 1))) ⟨rfl, hlt, HP.out, S.count l1 l2 l3 l4 _⟩ (hset _ _ _ HR.out)
      try dsimp only at hy
      have hlt' : (k : Int) < len := by omega
      have n1 : gy ≠ gx := by omega
      have n2 : gy ≠ b := by have := hb (by omega); omega
      have S' := (show Hid _ from S)
      have HX := (show Hid _ from hsetx)
      clear hY hset hsetx ce hsl hb S
      gi_wp2
      refine hRound.mono ?_
      rintro e W2 (⟨rfl, ⟨k', ek, hp', S2⟩, hR2⟩ | ⟨rfl, c, ⟨rfl, k', hk', ek, hp', hyes, S2⟩, hR2⟩)
      · obtain rfl : k' = k + 1 := by simpa using (congrArg List.length ek).symm
        have HP2 := (show Hid _ from hp')
        have S2' := (show Hid _ from S2)
        clear hp' S2 ek hRound hy
        gi_wp2
        go_roundw
        case rel => exact ⟨k + 1, by omega, by go_num, HP2.out, S2'.out, hR2⟩
        case measure => simp [intOf]; omega
      · obtain rfl : k' = k := by simpa using (congrArg List.length ek).symm
        have HP2 := (show Hid _ from hp')
        have HY2 := (show Hid _ from hyes)
        have ks := S2.bs.cell
        have kg := S2.bs.frozen
        have S2' := (show Hid _ from S2)
        clear hp' S2 ek hRound hy hyes
        gi_wp2
        exact bodyPost_ret (results_none Yba.results11 _ _ _) rfl ⟨⟨_, rfl⟩, .inr ⟨.ret, List.range (k' + 1), ⟨rfl, k', hlt, rfl, HP2.out, HY2.out, SB.stop S2'.out l1 l2 l3 l4 true⟩, HX.out _ _ _ _ hR2⟩⟩
    · obtain rfl : k = len := by omega
      have S' := (show Hid _ from S)
      clear hY hset hsetx ce hsl hb S
      gi_wp2
      go_end0
      exact ⟨⟨_, rfl⟩, .inl ⟨List.range k, ⟨⟨k, rfl, HP.out, S'.out⟩, rfl⟩, HR.out⟩⟩
end Go.Proofs.Ybulkdtls
