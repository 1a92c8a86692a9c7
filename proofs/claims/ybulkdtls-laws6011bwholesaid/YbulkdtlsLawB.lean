import Derived.Test.YbulkdtlsAny
import Derived.Test.YbulkdtlsModB
import Derived.Laws.CopyOwn
import Derived.Laws.MakeOwn
import Derived.Laws.Rows
import Derived.Deep.QuietTactic
import Derived.BigQuiet
namespace Go.Proofs.Ybulkdtls
open Go.RowKit Go.WideShapes

theorem splice_all {α : Type} (L cs : List α) (h : L.length = cs.length) : splice L 0 cs = cs := by
  simp [splice, ← h]

/-- The copy's cells. -/
theorem row_cells {w : World} {g n : Nat} {zs : Nat → Int} {t : TypeId} {fr : Nat × Nat} (h : w.heap[g]? = some (.cells ((ints zs n).map (Value.int .i64)).toArray t fr)) (j : Nat) (hj : j < n) : w.cell? ⟨g, j, none⟩ = some (.int .i64 (zs j)) := by
  rw [cell_of_row w g j _ t fr h]
  simp [ints, hj]

set_option maxHeartbeats 1000000 in
theorem lawB_long (sl : Option Addr) (len cap : Nat) (a1 a2 : Int) (w : World) (hlen : 1048576 < len) (hm : len ≤ maxLen) :
    Calls Yba.prog 4 #[.slice sl len cap, .int .u8 a1, .int .u8 a2] w fun e w' => e = .returned (.bool true) ∧ Below w.heap.size w w' := by
  unfold maxLen at hm
  have h1 : (1048576 : Int) < len := by omega
  go_enter Yba.func4, Yba.ntmps4
  go_wp2
  go_ret
  exact ⟨rfl, (Below.refl _ _).alloc (Nat.le_refl _) _⟩

theorem copy_src {W : World} {sl dp : Option Addr} {b off len : Nat} {zs : Nat → Int} (hsl : 0 < len → sl = some ⟨b, off, none⟩) (hc : ∀ j, j < len → W.cell? ⟨b, off + j, none⟩ = some (.int .i64 (zs j))) :
    0 < ((ints zs len).map (Value.int .i64)).length → dp = dp ∧ ∃ ad, sl = some ad ∧ ∀ j v, ((ints zs len).map (Value.int .i64))[j]? = some v → W.cell? (ad.add j) = some v := fun h => by
  have hp : 0 < len := by simpa [ints] using h
  refine ⟨rfl, ⟨b, off, none⟩, hsl hp, fun j v hv => ?_⟩
  have hj : j < len := by
    have := (List.getElem?_eq_some_iff.1 hv).1
    simpa [ints] using this
  rw [add_plain, hc j hj]
  simpa [ints, hj] using hv

theorem call_cell {w : World} {base g n cap' : Nat} {zs : Nat → Int} (h : w.ownsRow base 3 1 (.slice (some ⟨g, 0, none⟩) n cap') n ((ints zs n).map (Value.int .i64))) (j : Nat) (hj : j < n) : w.cell? ⟨g, j, none⟩ = some (.int .i64 (zs j)) := by
  have h1 := h.cells (g := g) rfl j (.int .i64 (zs j)) (by simp [ints, hj])
  rwa [add_plain, Nat.zero_add] at h1

theorem Yba.size3 : (Yba.prog.info? 3).map (·.size) = some 1 := by kernel_rfl

set_option maxRecDepth 100000 in
set_option maxHeartbeats 2000000 in
theorem lawB_any (b off len cap : Nat) (sl : Option Addr) (zs : Nat → Int) (a1 a2 : Int) (w : World) (hlen : len ≤ 1048576) (h1 : 0 ≤ a1) (h2 : a1 ≤ 255) (h3 : 0 ≤ a2) (h4 : a2 ≤ 255)
    (hsl : 0 < len → sl = some ⟨b, off, none⟩) (hb : 0 < len → b < w.heap.size) (ce : ∀ j, j < len → w.cell? ⟨b, off + j, none⟩ = some (.int .i64 (zs j))) (hz : ∀ j, -9223372036854775808 ≤ zs j ∧ zs j ≤ 9223372036854775807) :
    Calls Yba.prog 4 #[.slice sl len cap, .int .u8 a1, .int .u8 a2] w fun e w' => e = .returned (.bool true) ∧ Below w.heap.size w w' := by
  obtain ⟨i0, hi, hz0, hz1, hz2⟩ := info_parts Yba.info3
  have hmk := fun W => run_make (P := Yba.prog) W 22 3 i0 _ Yba.underlying22 hi hz0 .i64 .i64 len len (by omega) (by omega) (by rw [hz2]; omega) (by omega)
  simp only [hz1, Int.toNat_natCast, Nat.mul_one] at hmk
  clear hi hz0 hz1 hz2 i0
  have hl0 : ¬ (1048576 : Int) < len := by omega
  have m1 : (a1 % 7 + 1 == 0) = false := by simp; omega
  have hsz3 := Yba.size3
  have B3 : Below w.heap.size w (((w.alloc (.cells #[.slice sl len cap] 22)).alloc (.cells #[.int .i64 (a1 % 7 + 1)] 3)).alloc (.cells #[.int .i64 (a2 % (a1 % 7 + 1))] 3)) := (((Below.refl _ _).alloc (Nat.le_refl _) _).alloc (by simp) _).alloc (by simp; omega) _
  have hg : ((((w.alloc (.cells #[.slice sl len cap] 22)).alloc (.cells #[.int .i64 (a1 % 7 + 1)] 3)).alloc (.cells #[.int .i64 (a2 % (a1 % 7 + 1))] 3)).alloc (.cells (madeCells #[.int .i64 0] len) 3)).heap[w.heap.size + 1 + 1 + 1]? = some (.cells (madeCells #[.int .i64 0] len).toList.toArray 3 (0, 0)) := by
    have := Go.heap_alloc_new (((w.alloc (.cells #[.slice sl len cap] 22)).alloc (.cells #[.int .i64 (a1 % 7 + 1)] 3)).alloc (.cells #[.int .i64 (a2 % (a1 % 7 + 1))] 3)) (.cells (madeCells #[.int .i64 0] len) 3)
    simpa using this
  have hsrc : ∀ j, j < len → ((((w.alloc (.cells #[.slice sl len cap] 22)).alloc (.cells #[.int .i64 (a1 % 7 + 1)] 3)).alloc (.cells #[.int .i64 (a2 % (a1 % 7 + 1))] 3)).alloc (.cells (madeCells #[.int .i64 0] len) 3)).cell? ⟨b, off + j, none⟩ = some (.int .i64 (zs j)) :=
    fun j hj => ((B3.alloc (by simp; omega) _).cell (p := ⟨b, off + j, none⟩) (hb (by omega))).trans (ce j hj)
  have HB3 := (show Hid _ from B3)
  have HG := (show Hid _ from hg)
  have HSRC := (show Hid _ from hsrc)
  have HSL := (show Hid _ from hsl)
  have HB := (show Hid _ from hb)
  have HC := (show Hid _ from ce)
  have HZ := (show Hid _ from hz)
  clear hsl hb ce hz B3 hg hsrc
  go_enter Yba.func4, Yba.ntmps4
  go_wp2_with ((refine wpList_copy_splice rfl (.tmp 35) (.tmp 36) 22 22 rfl 3 Yba.underlying22 hsz3 _ _ _ _ _ _ rfl rfl (w.heap.size + 1 + 1 + 1) 0 (madeCells #[.int .i64 0] len).toList 3 HG.out ((ints zs len).map (Value.int .i64)) (by simp [ints]) (copy_src HSL.out HSRC.out) (by simp [ints, size_madeCells]) (by simp [Value.oneCell']) (w.heap.size + 1 + 1 + 1) (((w.alloc (.cells #[.slice sl len cap] 22)).alloc (.cells #[.int .i64 (a1 % 7 + 1)] 3)).alloc (.cells #[.int .i64 (a2 % (a1 % 7 + 1))] 3)) ((Below.refl _ _).alloc (by simp) _) (Nat.le_refl _) ?_); intro w1 hC B1)
  have M1 : 1 ≤ a1 % 7 + 1 := by omega
  have M2 : a1 % 7 + 1 ≤ 7 := by omega
  have R1 : 0 ≤ a2 % (a1 % 7 + 1) := Int.emod_nonneg _ (by omega)
  have R2 : a2 % (a1 % 7 + 1) < a1 % 7 + 1 := Int.emod_lt_of_pos _ (by omega)
  have hC1 : w1.heap[w.heap.size + 1 + 1 + 1]? = some (.cells ((ints zs len).map (Value.int .i64)).toArray 3) := by
    have h := hC.out
    rwa [splice_all _ _ (by simp [size_madeCells, ints])] at h
  have hs1 : w.heap.size + 1 + 1 + 1 < w1.heap.size := (Array.getElem?_eq_some_iff.1 hC1).1
  have c0 : w1.cell? ⟨w.heap.size, 0, none⟩ = some (.slice sl len cap) := (B1.cell (by simp; omega)).trans (by go_simp)
  have cm : w1.cell? ⟨w.heap.size + 1, 0, none⟩ = some (.int .i64 (a1 % 7 + 1)) := (B1.cell (by simp)).trans (by go_simp)
  have cr : w1.cell? ⟨w.heap.size + 1 + 1, 0, none⟩ = some (.int .i64 (a2 % (a1 % 7 + 1))) := (B1.cell (by simp)).trans (by go_simp)
  have BW : Below w.heap.size w w1 := HB3.out.trans (B1.mono (by omega))
  have ce1 : ∀ j, j < len → w1.cell? ⟨b, off + j, none⟩ = some (.int .i64 (zs j)) := fun j hj => (BW.cell (p := ⟨b, off + j, none⟩) (HB.out (by omega))).trans (HC.out j hj)
  have cp1 := row_cells hC1
  clear hC B1 HB3 HG HSRC HC hC1 hmk m1
  generalize a1 % 7 + 1 = m at *
  generalize a2 % m = r at *
  have B6 : Below w1.heap.size w1 (((w1.alloc (.cells #[.int .i64 0] 3)).alloc (.cells #[.bool false] 4)).alloc (.cells #[.slice none 0 0] 22)) := (((Below.refl _ _).alloc (Nat.le_refl _) _).alloc (by simp) _).alloc (by simp; omega) _
  have b1 : Boxed (((w1.alloc (.cells #[.int .i64 0] 3)).alloc (.cells #[.bool false] 4)).alloc (.cells #[.slice none 0 0] 22)) w1.heap.size 3 (.int .i64 0) := ((Boxed.new w1 3 _).alloc _).alloc _
  have b2 : Boxed (((w1.alloc (.cells #[.int .i64 0] 3)).alloc (.cells #[.bool false] 4)).alloc (.cells #[.slice none 0 0] 22)) (w1.heap.size + 1) 4 (.bool false) := by
    have := (Boxed.new (w1.alloc (.cells #[.int .i64 0] 3)) 4 (.bool false)).alloc (.cells #[.slice none 0 0] 22)
    rwa [World.size_alloc] at this
  have b3 : Boxed (((w1.alloc (.cells #[.int .i64 0] 3)).alloc (.cells #[.bool false] 4)).alloc (.cells #[.slice none 0 0] 22)) (w1.heap.size + 1 + 1) 22 (.slice none 0 0) := by
    have := Boxed.new ((w1.alloc (.cells #[.int .i64 0] 3)).alloc (.cells #[.bool false] 4)) 22 (.slice none 0 0)
    rwa [World.size_alloc, World.size_alloc] at this
  refine (any_B _ w.heap.size (w.heap.size + 1) (w.heap.size + 1 + 1) w1.heap.size (w1.heap.size + 1) (w1.heap.size + 1 + 1) b off len cap sl zs m r M1 M2 (by omega) (by omega) (by omega) (by omega) (by omega) (by simp) hlen
    ((B6.cell (by show w.heap.size < _; omega)).trans c0) HSL.out (fun h => by have := HB.out h; omega) (fun j hj => (B6.cell (by show b < _; have := HB.out (by omega); omega)).trans (ce1 j hj))
    ((B6.cell (by show w.heap.size + 1 < _; omega)).trans cm) ((B6.cell (by show w.heap.size + 1 + 1 < _; omega)).trans cr) b1 b2 b3).mono ?_
  clear b1 b2 b3
  rintro e w7 ⟨gp, gq, fv, (⟨rfl, hno, S⟩ | ⟨k, hk, rfl, hp, hyes, S⟩)⟩
  · have B7 : Below w1.heap.size w1 w7 := B6.trans S.bel
    have s7 := B7.size
    have d0 := (B7.cell (by show w.heap.size < _; omega)).trans c0
    have dm := (B7.cell (by show w.heap.size + 1 < _; omega)).trans cm
    have dr := (B7.cell (by show w.heap.size + 1 + 1 < _; omega)).trans cr
    have dc : ∀ j, j < len → w7.cell? ⟨w.heap.size + 1 + 1 + 1, j, none⟩ = some (.int .i64 (zs j)) := fun j hj => (B7.cell (by show w.heap.size + 1 + 1 + 1 < _; omega)).trans (cp1 j hj)
    have de : ∀ j, j < len → w7.cell? ⟨b, off + j, none⟩ = some (.int .i64 (zs j)) := fun j hj => (B7.cell (by show b < _; have := HB.out (by omega); omega)).trans (ce1 j hj)
    have dy := S.by_.cell
    have ds := S.bs.cell
    obtain ⟨v, bv, rv⟩ := S.bc
    have dv := bv.cell
    have BB : Below w.heap.size w w7 := BW.trans (B7.mono (by omega))
    have HN := (show Hid _ from hno)
    have DC := (show Hid _ from dc)
    have DE := (show Hid _ from de)
    clear S B6 B7 c0 cm cr ce1 cp1 hno dc de BW
    go_wp2
    go_loopw [16, 17] (fun ix iv wr => ∃ k : Nat, k ≤ len ∧ iv = .int .i64 k ∧ ix = .int .i64 (-1) ∧ ∃ q, wr = w7.drewN q) (fun _ iv _ => len - (intOf iv).toNat)
    case atStart => exact ⟨0, by omega, rfl, rfl, 0, rfl⟩
    case round =>
      obtain ⟨k, hk, rfl, rfl, q, rfl⟩ := hrel
      by_cases hlt : k < len
      · have e1 := DC.out k hlt
        have hlt' : (k : Int) < len := by omega
        have hmz : (m == 0) = false := by simp; omega
        obtain ⟨z1, z2⟩ := HZ.out k
        obtain ⟨f1, f2⟩ := pz_no M1 R1 R2 (HN.out k hlt)
        have ew := wrap_mod (zs k) m M1 M2 z1 z2
        obtain ⟨t1, t2⟩ := tmod_bd (zs k) m M1
        generalize (zs k).tmod m = t at f1 f2 ew t1 t2
        go_wp2
        go_quiet (fail)
        go_wp2
        go_roundw
        case rel => exact ⟨k + 1, by omega, by go_num, rfl, _, rfl⟩
        case measure => simp [intOf]; omega
      · obtain rfl : k = len := by omega
        rcases rv.2 with ⟨rfl, hz0⟩ | ⟨g, cap', cur, rfl, _⟩
        · clear rv bv
          clear HZ
          go_wp2
          go_loopw [19] (fun iv wr => ∃ j : Nat, j ≤ k ∧ iv = .int .i64 j ∧ ∃ q, wr = w7.drewN q) (fun iv _ => k - (intOf iv).toNat)
          case atStart => exact ⟨0, by omega, rfl, _, rfl⟩
          case round =>
            obtain ⟨j, hj, rfl, q2, rfl⟩ := hrel
            by_cases hjl : j < k
            · omega
            · have hje : ¬ (j : Int) < k := by omega
              go_wp2
              go_loopw [20] (fun iv wr => ∃ j : Nat, j ≤ k ∧ iv = .int .i64 j ∧ ∃ q, wr = w7.drewN q) (fun iv _ => k - (intOf iv).toNat)
              case atStart => exact ⟨0, by omega, rfl, _, rfl⟩
              case round =>
                obtain ⟨i, hi, rfl, q3, rfl⟩ := hrel
                by_cases hil : i < k
                · omega
                · obtain rfl : i = k := by omega
                  go_wp2
                  go_ret
                  exact ⟨rfl, below_drewN BB _⟩
        · have HR := (show Hid _ from rv)
          clear rv bv
          clear HZ
          go_wp2
          go_loopw [19] (fun iv wr => ∃ j : Nat, j ≤ k ∧ iv = .int .i64 j ∧ ∃ q, wr = w7.drewN q) (fun iv _ => k - (intOf iv).toNat)
          case atStart => exact ⟨0, by omega, rfl, _, rfl⟩
          case round =>
            obtain ⟨j, hj, rfl, q2, rfl⟩ := hrel
            by_cases hjl : j < k
            · have g1 := call_cell HR.out j hjl
              have g2 := DC.out j (by omega)
              have hj' : (j : Int) < k := by omega
              have hj2 : (j : Int) < k := by omega
              go_wp2
              go_quiet (fail)
              go_wp2
              go_roundw
              case rel => exact ⟨j + 1, by omega, by go_num, _, rfl⟩
              case measure => simp [intOf]; omega
            · have hje : ¬ (j : Int) < k := by omega
              go_wp2
              go_loopw [20] (fun iv wr => ∃ j : Nat, j ≤ k ∧ iv = .int .i64 j ∧ ∃ q, wr = w7.drewN q) (fun iv _ => k - (intOf iv).toNat)
              case atStart => exact ⟨0, by omega, rfl, _, rfl⟩
              case round =>
                obtain ⟨i, hi, rfl, q3, rfl⟩ := hrel
                by_cases hil : i < k
                · have g1 := DE.out i hil
                  have g2 := DC.out i hil
                  have hi' : (i : Int) < k := by omega
                  obtain rfl := HSL.out (by omega)
                  go_wp2
                  go_quiet (fail)
                  go_wp2
                  go_roundw
                  case rel => exact ⟨i + 1, by omega, by go_num, _, rfl⟩
                  case measure => simp [intOf]; omega
                · obtain rfl : i = k := by omega
                  go_wp2
                  go_ret
                  exact ⟨rfl, below_drewN BB _⟩
  · have B7 : Below w1.heap.size w1 w7 := B6.trans S.bel
    have s7 := B7.size
    have d0 := (B7.cell (by show w.heap.size < _; omega)).trans c0
    have dm := (B7.cell (by show w.heap.size + 1 < _; omega)).trans cm
    have dr := (B7.cell (by show w.heap.size + 1 + 1 < _; omega)).trans cr
    have dc : ∀ j, j < len → w7.cell? ⟨w.heap.size + 1 + 1 + 1, j, none⟩ = some (.int .i64 (zs j)) := fun j hj => (B7.cell (by show w.heap.size + 1 + 1 + 1 < _; omega)).trans (cp1 j hj)
    have de : ∀ j, j < len → w7.cell? ⟨b, off + j, none⟩ = some (.int .i64 (zs j)) := fun j hj => (B7.cell (by show b < _; have := HB.out (by omega); omega)).trans (ce1 j hj)
    have dy := S.by_.cell
    have ds := S.bs.cell
    obtain ⟨v, bv, rv⟩ := S.bc
    have dv := bv.cell
    have BB : Below w.heap.size w w7 := BW.trans (B7.mono (by omega))
    have HN := (show Hid _ from hp)
    have DC := (show Hid _ from dc)
    have DE := (show Hid _ from de)
    clear S B6 B7 c0 cm cr ce1 cp1 hp dc de BW
    rcases rv.2 with ⟨_, hz0⟩ | ⟨g, cap', cur, rfl, _⟩
    · omega
    have HR := (show Hid _ from rv)
    have hkl : (k : Int) < len := by omega
    have hmz : (m == 0) = false := by simp; omega
    clear rv bv
    go_wp2
    go_loopw [16, 17] (fun ix iv wr => ∃ i : Nat, i ≤ k ∧ iv = .int .i64 i ∧ ix = .int .i64 (-1) ∧ ∃ q, wr = w7.drewN q) (fun _ iv _ => len - (intOf iv).toNat)
    case atStart => exact ⟨0, by omega, rfl, rfl, 0, rfl⟩
    case round =>
      obtain ⟨i, hi, rfl, rfl, q, rfl⟩ := hrel
      obtain ⟨z1, z2⟩ := HZ.out i
      have e1 := DC.out i (by omega)
      have hlt' : (i : Int) < len := by omega
      have ew := wrap_mod (zs i) m M1 M2 z1 z2
      obtain ⟨t1, t2⟩ := tmod_bd (zs i) m M1
      by_cases hlt : i < k
      · obtain ⟨f1, f2⟩ := pz_no M1 R1 R2 (HN.out i hlt)
        generalize (zs i).tmod m = t at f1 f2 ew t1 t2
        go_wp2
        go_quiet (fail)
        go_wp2
        go_roundw
        case rel => exact ⟨i + 1, by omega, by go_num, rfl, _, rfl⟩
        case measure => simp [intOf]; omega
      · obtain rfl : i = k := by omega
        rcases pz_yes M1 hyes with f1 | ⟨f1, f2⟩
        · generalize (zs i).tmod m = t at f1 ew t1 t2
          clear HZ hlt hyes
          go_wp2
          go_quiet (fail)
          go_wp2
          go_loopw [19] (fun iv wr => ∃ j : Nat, j ≤ i + 1 ∧ iv = .int .i64 j ∧ ∃ q, wr = w7.drewN q) (fun iv _ => i + 1 - (intOf iv).toNat)
          case atStart => exact ⟨0, by omega, rfl, _, rfl⟩
          case round =>
            obtain ⟨j, hj, rfl, q2, rfl⟩ := hrel
            by_cases hjl : j < i + 1
            · have g1 := call_cell HR.out j hjl
              have g2 := DC.out j (by omega)
              have hj' : (j : Int) < (i : Int) + 1 := by omega
              have hj2 : (j : Int) < len := by omega
              go_wp2
              go_quiet (fail)
              go_wp2
              go_roundw
              case rel => exact ⟨j + 1, by omega, by go_num, _, rfl⟩
              case measure => simp [intOf]; omega
            · have hje : ¬ (j : Int) < (i : Int) + 1 := by omega
              go_wp2
              go_loopw [20] (fun iv wr => ∃ j : Nat, j ≤ len ∧ iv = .int .i64 j ∧ ∃ q, wr = w7.drewN q) (fun iv _ => len - (intOf iv).toNat)
              case atStart => exact ⟨0, by omega, rfl, _, rfl⟩
              case round =>
                obtain ⟨l, hl, rfl, q3, rfl⟩ := hrel
                by_cases hil : l < len
                · have g1 := DE.out l hil
                  have g2 := DC.out l hil
                  have hi' : (l : Int) < len := by omega
                  obtain rfl := HSL.out (by omega)
                  go_wp2
                  go_quiet (fail)
                  go_wp2
                  go_roundw
                  case rel => exact ⟨l + 1, by omega, by go_num, _, rfl⟩
                  case measure => simp [intOf]; omega
                · obtain rfl : l = len := by omega
                  go_wp2
                  go_ret
                  exact ⟨rfl, below_drewN BB _⟩
        · generalize (zs i).tmod m = t at f1 f2 ew t1 t2
          clear HZ hlt hyes
          go_wp2
          go_quiet (fail)
          go_wp2
          go_loopw [19] (fun iv wr => ∃ j : Nat, j ≤ i + 1 ∧ iv = .int .i64 j ∧ ∃ q, wr = w7.drewN q) (fun iv _ => i + 1 - (intOf iv).toNat)
          case atStart => exact ⟨0, by omega, rfl, _, rfl⟩
          case round =>
            obtain ⟨j, hj, rfl, q2, rfl⟩ := hrel
            by_cases hjl : j < i + 1
            · have g1 := call_cell HR.out j hjl
              have g2 := DC.out j (by omega)
              have hj' : (j : Int) < (i : Int) + 1 := by omega
              have hj2 : (j : Int) < len := by omega
              go_wp2
              go_quiet (fail)
              go_wp2
              go_roundw
              case rel => exact ⟨j + 1, by omega, by go_num, _, rfl⟩
              case measure => simp [intOf]; omega
            · have hje : ¬ (j : Int) < (i : Int) + 1 := by omega
              go_wp2
              go_loopw [20] (fun iv wr => ∃ j : Nat, j ≤ len ∧ iv = .int .i64 j ∧ ∃ q, wr = w7.drewN q) (fun iv _ => len - (intOf iv).toNat)
              case atStart => exact ⟨0, by omega, rfl, _, rfl⟩
              case round =>
                obtain ⟨l, hl, rfl, q3, rfl⟩ := hrel
                by_cases hil : l < len
                · have g1 := DE.out l hil
                  have g2 := DC.out l hil
                  have hi' : (l : Int) < len := by omega
                  obtain rfl := HSL.out (by omega)
                  go_wp2
                  go_quiet (fail)
                  go_wp2
                  go_roundw
                  case rel => exact ⟨l + 1, by omega, by go_num, _, rfl⟩
                  case measure => simp [intOf]; omega
                · obtain rfl : l = len := by omega
                  go_wp2
                  go_ret
                  exact ⟨rfl, below_drewN BB _⟩
end Go.Proofs.Ybulkdtls
