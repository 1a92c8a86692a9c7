import Derived.Test.YbulkdtlsRange
import Derived.Test.YbulkdtlsRows
import Derived.Shelf.Abstract
import Derived.Shelf.RegionOpen
import Derived.OwnWalkIn
import Derived.TacticsInMore
import Derived.LoopNIn
import Derived.LoopIn
namespace Go.Proofs.Ybulkdtls
open Go.RowKit Go.Shelf
attribute [local go_sem] Oper.semAt_some

def goA (J : Nat → World → Prop) (pre : List Nat) (W : World) : Prop := ∃ k, pre = List.range k ∧ J k W

set_option maxRecDepth 100000 in
set_option maxHeartbeats 2000000 in
/-- The law's own sequence, over the elements of the slice that the box gx holds: for a body that keeps what lay below B0 and never leaves. -/
theorem iterA (F : Fence) (n : Nat) (h6 : F.fn 6) (hro : F.round = none) (hn : 1 ≤ n) (w0 : World) (gx B0 b off len cap : Nat) (sl : Option Addr) (zs : Nat → Int) (J : Nat → World → Prop) (hJ : ∀ k W, J k W → Below B0 w0 W)
    (l0 : gx < B0) (hlen : len ≤ 1048576) (cx : w0.cell? ⟨gx, 0, none⟩ = some (.slice sl len cap)) (hsl : 0 < len → sl = some ⟨b, off, none⟩) (hb : 0 < len → b < B0)
    (ce : ∀ j, j < len → w0.cell? ⟨b, off + j, none⟩ = some (.int .i64 (zs j))) :
    IterLaw F n Yba.prog 6 #[.pointer (some ⟨gx, 0, none⟩)] (fun i : Nat => #[.int .i64 (zs i)])
      (fun pre i W => pre = List.range i ∧ i < len ∧ J i W) (goA J) (fun _ _ _ => False) (fun pre W => goA J pre W ∧ pre = List.range len) (fun _ _ _ => False) := by
  intro l R Rx hset hsetx hY W hB hR
  obtain ⟨k0, e0, S0⟩ := hB
  obtain rfl : k0 = 0 := by
    cases k0 with
    | zero => rfl
    | succ j => simp [List.range_succ] at e0
  clear e0
  have kx := ((hJ 0 W S0).cell (p := ⟨gx, 0, none⟩) l0).trans cx
  refine callsIn_of_wp Yba.func6 rfl h6 ?_ hro
  simp only [Yba.ntmps6, List.size_toArray, List.length_cons, List.length_nil, Nat.reduceAdd, Nat.reduceSub, Array.replicate_succ, Array.replicate_zero, List.push_toArray, List.append_toArray, List.nil_append, List.cons_append]
  gi_wp2
  gi_loopw [7] (fun i wr => ∃ k : Nat, k ≤ len ∧ i = .int .i64 k ∧ J k wr ∧ R wr) (fun i _ => len - (intOf i).toNat)
  case atStart => exact ⟨0, Nat.zero_le _, rfl, S0, hR⟩
  case round =>
    obtain ⟨k, hk, rfl, S, hRr⟩ := hrel
    by_cases hlt : k < len
    · obtain rfl := hsl (by omega)
      have ke := ((hJ k wr S).cell (p := ⟨b, off + k, none⟩) (hb (by omega))).trans (ce k hlt)
      obtain ⟨fn, tmps, assign, body, hy, hRound⟩ := hY (List.range k) k wr ⟨rfl, hlt, S⟩ hRr
      try dsimp only at hy
      have hlt' : (k : Int) < len := by omega
      clear hY hset hsetx ce hsl hb S kx cx S0 hR
      gi_wp2
      refine hRound.mono ?_
      rintro e W2 (⟨rfl, ⟨k', ek, S2⟩, hR2⟩ | ⟨rfl, c, hF, _⟩)
      · obtain rfl : k' = k + 1 := by simpa using (congrArg List.length ek).symm
        have S2' := (show Hid _ from S2)
        clear S2 ek hRound hy
        gi_wp2
        go_roundw
        case rel => exact ⟨k + 1, by omega, by go_num, S2'.out, hR2⟩
        case measure => simp [intOf]; omega
      · exact hF.elim
    · obtain rfl : k = len := by omega
      clear hY hset hsetx ce hsl hb
      gi_wp2
      go_end0
      exact ⟨⟨_, rfl⟩, .inl ⟨List.range k, ⟨⟨k, rfl, S⟩, rfl⟩, hRr⟩⟩
end Go.Proofs.Ybulkdtls
