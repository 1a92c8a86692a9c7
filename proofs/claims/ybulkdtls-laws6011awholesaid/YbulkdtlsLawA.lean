import Derived.Test.YbulkdtlsAccA
import Derived.Test.YbulkdtlsEqA
import Derived.Test.YbulkdtlsTwo
import Derived.Lib.SliceRun
namespace Go.Proofs.Ybulkdtls
open Go.RowKit Go.WideShapes

theorem idx_before (l : List Int) (k : Int) : ∀ t, t < l.idxOf k → (l.getD t 0 == k) = false := by
  induction l with
  | nil => intro t h; simp at h
  | cons a l ih =>
    intro t h
    rw [List.idxOf_cons] at h
    by_cases e : a = k
    · simp [e] at h
    · have e' : (a == k) = false := by simpa using e
      simp only [e', cond_false] at h
      cases t with
      | zero => simpa using e
      | succ t => simpa using ih t (by omega)
theorem idx_at (l : List Int) (k : Int) (h : k ∈ l) : l.getD (l.idxOf k) 0 = k := by
  have h1 := List.idxOf_lt_length_of_mem h
  have h2 := List.getElem_idxOf h1
  simp [List.getD, h1, h2]
theorem idx_none (l : List Int) (k : Int) (h : k ∉ l) (t : Nat) (ht : t < l.length) : (l.getD t 0 == k) = false := by
  simp only [List.getD, List.getElem?_eq_getElem ht, Option.getD_some, beq_eq_false_iff_ne]
  intro e
  exact h (e ▸ List.getElem_mem ht)
theorem getD_last (l : List Int) (n : Nat) (h : l.length = n) : some (Value.int .i64 ((l ++ [0]).getD n 0)) = some (.int .i64 0) := by
  subst h; simp
theorem row_some {W : World} {base n : Nat} {v : Value} {xs : List Value} (h : W.ownsRow base 3 1 v n xs) (hn : 0 < n) : ∃ g cap, v = .slice (some ⟨g, 0, none⟩) n cap := by
  rcases h.2 with ⟨_, h0⟩ | ⟨g, cap, _, e, _⟩
  · omega
  · exact ⟨g, cap, e⟩
theorem row_use {W : World} {base : Nat} {v : Value} {xs : List Int} (h : W.ownsRow base 3 1 v xs.length (xs.map (Value.int .i64))) :
    ∃ g sl cap, v = .slice sl xs.length cap ∧ (0 < xs.length → sl = some ⟨g, 0, none⟩) ∧ ∀ j, j < xs.length → W.cell? ⟨g, j, none⟩ = some (.int .i64 (xs.getD j 0)) := by
  rcases h.2 with ⟨rfl, h0⟩ | ⟨g, cap, _, rfl, _⟩
  · exact ⟨0, none, 0, by rw [h0], fun h => by omega, fun j hj => by omega⟩
  · exact ⟨g, _, cap, rfl, fun _ => rfl, fun j hj => row_at h j hj⟩

theorem eql_nilA (W : World) (a : Option Addr) (n c : Nat) : (binOp .eql 22 (.slice a n c) (.slice none 0 0)).run Yba.prog W = .ok (.bool a.isNone) W := Lib.run_eql_slice_nil W 22 3 a n c 0 0 Yba.underlying22
theorem eql_nil0 : ∀ W : World, (binOp .eql 22 (.slice none 0 0) (.slice none 0 0)).run Yba.prog W = .ok (.bool true) W := fun W => eql_nilA W none 0 0
theorem eql_nil1 : ∀ (W : World) (a : Addr) (n c : Nat), (binOp .eql 22 (.slice (some a) n c) (.slice none 0 0)).run Yba.prog W = .ok (.bool false) W := fun W a n c => eql_nilA W (some a) n c
theorem row_use' {W : World} {base : Nat} {v : Value} {xs : List Int} (h : W.ownsRow base 3 1 v xs.length (xs.map (Value.int .i64))) (n : Nat) (hn : xs.length = n) :
    ∃ g sl cap, v = .slice sl n cap ∧ (0 < n → sl = some ⟨g, 0, none⟩) ∧ ∀ j, j < n → W.cell? ⟨g, 0 + j, none⟩ = some (.int .i64 (xs.getD j 0)) := by
  subst hn
  obtain ⟨g, sl, cap, e1, e2, e3⟩ := row_use h
  exact ⟨g, sl, cap, e1, e2, fun j hj => by rw [Nat.zero_add]; exact e3 j hj⟩
theorem ints_getD (zs : Nat → Int) (k j : Nat) (hj : j < k) : (ints zs k).getD j 0 = zs j := by simp [ints, List.getD, hj]

set_option maxHeartbeats 1000000 in
theorem lawA_long (sl : Option Addr) (len cap : Nat) (a1 : Int) (w : World) (hlen : 1048576 < len) (hm : len ≤ maxLen) :
    Calls Yba.prog 3 #[.slice sl len cap, .int .u8 a1] w fun e w' => e = .returned (.bool true) ∧ Below w.heap.size w w' := by
  unfold maxLen at hm
  have h1 : (1048576 : Int) < len := by omega
  go_enter Yba.func3, Yba.ntmps3
  go_wp2
  go_ret
  exact ⟨rfl, (Below.refl _ _).alloc (Nat.le_refl _) _⟩

set_option maxRecDepth 100000 in
set_option maxHeartbeats 2000000 in
theorem lawA_all (b off len cap : Nat) (sl : Option Addr) (zs : Nat → Int) (a1 : Int) (w : World) (hlen : len ≤ 1048576) (h1 : 0 ≤ a1) (h2 : a1 ≤ 255)
    (hsl : 0 < len → sl = some ⟨b, off, none⟩) (hb : 0 < len → b < w.heap.size) (ce : ∀ j, j < len → w.cell? ⟨b, off + j, none⟩ = some (.int .i64 (zs j))) :
    Calls Yba.prog 3 #[.slice sl len cap, .int .u8 a1] w fun e w' => e = .returned (.bool true) ∧ Below w.heap.size w w' := by
  obtain ⟨i0, hi, hz0, hz1, hz2⟩ := info_parts Yba.info3
  have hmk := fun W => run_make (P := Yba.prog) W 22 3 i0 _ Yba.underlying22 hi hz0 .i64 .i64 len len (by omega) (by omega) (by rw [hz2]; omega) (by omega)
  simp only [hz1, Int.toNat_natCast, Nat.mul_one] at hmk
  have hl0 : ¬ (1048576 : Int) < len := by omega
  have hsz3 := Yba.cells3
  have B3 : Below w.heap.size w (w.alloc (.cells #[.slice sl len cap] 22)) := (Below.refl _ _).alloc (Nat.le_refl _) _
  have hg : ((w.alloc (.cells #[.slice sl len cap] 22)).alloc (.cells (madeCells #[.int .i64 0] len) 3)).heap[w.heap.size + 1]? = some (.cells (madeCells #[.int .i64 0] len).toList.toArray 3 (0, 0)) := by
    have := Go.heap_alloc_new (w.alloc (.cells #[.slice sl len cap] 22)) (.cells (madeCells #[.int .i64 0] len) 3)
    simpa using this
  have hsrc : ∀ j, j < len → ((w.alloc (.cells #[.slice sl len cap] 22)).alloc (.cells (madeCells #[.int .i64 0] len) 3)).cell? ⟨b, off + j, none⟩ = some (.int .i64 (zs j)) :=
    fun j hj => ((B3.alloc (by simp) _).cell (p := ⟨b, off + j, none⟩) (hb (by omega))).trans (ce j hj)
  have HB3 := (show Hid _ from B3)
  have HG := (show Hid _ from hg)
  have HSRC := (show Hid _ from hsrc)
  have HSL := (show Hid _ from hsl)
  have HB := (show Hid _ from hb)
  have HC := (show Hid _ from ce)
  clear hsl hb ce B3 hg hsrc hi hz0 hz1 hz2 i0
  go_enter Yba.func3, Yba.ntmps3
  go_wp2_with ((refine wpList_copy_splice rfl (.tmp 27) (.tmp 28) 22 22 rfl 3 Yba.underlying22 hsz3 _ _ _ _ _ _ rfl rfl (w.heap.size + 1) 0 (madeCells #[.int .i64 0] len).toList 3 HG.out ((ints zs len).map (Value.int .i64)) (by simp [ints]) (copied_src HSL.out HSRC.out) (by simp [ints, size_madeCells]) (by simp [Value.oneCell']) (w.heap.size + 1) (w.alloc (.cells #[.slice sl len cap] 22)) ((Below.refl _ _).alloc (by simp) _) (Nat.le_refl _) ?_); intro w1 hC B1)
  have M1 : 1 ≤ a1 % 5 + 1 := by omega
  have M2 : a1 % 5 + 1 ≤ 5 := by omega
  have hC1 : w1.heap[w.heap.size + 1]? = some (.cells ((ints zs len).map (Value.int .i64)).toArray 3) := by
    have h := hC.out
    rwa [splice_whole _ _ (by simp [size_madeCells, ints])] at h
  have hs1 : w.heap.size + 1 < w1.heap.size := (Array.getElem?_eq_some_iff.1 hC1).1
  have c0 : w1.cell? ⟨w.heap.size, 0, none⟩ = some (.slice sl len cap) := (B1.cell (by simp)).trans (by go_simp)
  have BW : Below w.heap.size w w1 := HB3.out.trans (B1.mono (by omega))
  have ce1 : ∀ j, j < len → w1.cell? ⟨b, off + j, none⟩ = some (.int .i64 (zs j)) := fun j hj => (BW.cell (p := ⟨b, off + j, none⟩) (HB.out (by omega))).trans (HC.out j hj)
  have cp1 := copied_cells hC1
  clear hC B1 HB3 HG HSRC HC hC1 hmk
  generalize a1 % 5 + 1 = m at *
  have B6 : Below w1.heap.size w1 (((w1.alloc (.cells #[.int .u64 m] 23)).alloc (.cells #[.slice none 0 0] 22)).alloc (.cells #[.slice none 0 0] 22)) := (((Below.refl _ _).alloc (Nat.le_refl _) _).alloc (by simp) _).alloc (by simp; omega) _
  have b1 := ((Boxed.new w1 23 (.int .u64 m)).alloc (.cells #[.slice none 0 0] 22)).alloc (.cells #[.slice none 0 0] 22)
  have b2 := (Boxed.new (w1.alloc (.cells #[.int .u64 m] 23)) 22 (.slice none 0 0)).alloc (.cells #[.slice none 0 0] 22)
  have b3 := Boxed.new ((w1.alloc (.cells #[.int .u64 m] 23)).alloc (.cells #[.slice none 0 0] 22)) 22 (.slice none 0 0)
  simp only [World.size_alloc] at b2 b3
  refine (acc_A _ w.heap.size w1.heap.size (w1.heap.size + 1) (w1.heap.size + 1 + 1) b off len cap sl zs m M1 M2 (by omega) (by omega) (by omega) (by simp) hlen
    ((B6.cell (by show w.heap.size < _; omega)).trans c0) HSL.out (fun h => by have := HB.out h; omega) (fun j hj => (B6.cell (by show b < _; have := HB.out (by omega); omega)).trans (ce1 j hj)) b1.cell b2 b3).mono ?_
  rintro e W4 ⟨vk, va, vs, vt, rfl, bel, lk, la, rs, rt, hnil⟩
  have B7 : Below w1.heap.size w1 W4 := B6.trans (bel.mono (by omega))
  have s7 := B7.size
  have cm4 := (bel.cell (p := ⟨w1.heap.size, 0, none⟩) (by show w1.heap.size < _; omega)).trans b1.cell
  have d0 := (B7.cell (by show w.heap.size < _; omega)).trans c0
  have dc : ∀ j, j < len → W4.cell? ⟨w.heap.size + 1, j, none⟩ = some (.int .i64 (zs j)) := fun j hj => (B7.cell (by show w.heap.size + 1 < _; omega)).trans (cp1 j hj)
  have de : ∀ j, j < len → W4.cell? ⟨b, off + j, none⟩ = some (.int .i64 (zs j)) := fun j hj => (B7.cell (by show b < _; have := HB.out (by omega); omega)).trans (ce1 j hj)
  have BB : Below w.heap.size w W4 := BW.trans (B7.mono (by omega))
  have sm : w1.heap.size < W4.heap.size := by have := lk.1.lt; omega
  have CM := (show Hid _ from cm4)
  have D0 := (show Hid _ from d0)
  have DC := (show Hid _ from dc)
  have DE := (show Hid _ from de)
  have LK := (show Hid _ from lk)
  have LA := (show Hid _ from la)
  have RS := (show Hid _ from rs)
  have RT := (show Hid _ from rt)
  have HN := (show Hid _ from hnil)
  have HBB := (show Hid _ from BB)
  clear B6 B7 b1 b2 b3 c0 ce1 cp1 BW bel lk la rs rt hnil cm4 d0 dc de BB
  obtain ⟨i0, hi, hz0, hz1, hz2⟩ := info_parts Yba.info3
  have hmz : (m == 0) = false := by simp; omega
  go_wp2
  go_loopw [14, 15, 46] (fun wk wa iv wr => ∃ k : Nat, k ≤ len ∧ iv = .int .i64 k ∧ Two W4.heap.size W4 wr wk wa (foldA m zs k).1 (foldA m zs k).2) (fun _ _ iv _ => len - (intOf iv).toNat)
  case atStart => exact ⟨0, by omega, rfl, Below.refl _ _, World.ownsRow_nil _ _ _ _, World.ownsRow_nil _ _ _ _, fun g h => by cases h⟩
  case round =>
    obtain ⟨k, hk, rfl, T⟩ := hrel
    have hfl := foldA_len m zs k
    by_cases hlt : k < len
    · have fe : foldA m zs (k + 1) = stepA m (foldA m zs k) (zs k) := rfl
      have hkz : wrap64 ((IntKind.u64.wrap (zs k)).tmod m) = kz m (zs k) := rfl
      generalize foldA m zs k = s at T hfl fe
      obtain ⟨hn1, hn2⟩ := hfl
      have hsz := T.bel.size
      have e1 := (T.bel.cell (p := ⟨w.heap.size + 1, k, none⟩) (by show w.heap.size + 1 < _; omega)).trans (DC.out k hlt)
      have e2 := (T.bel.cell (p := ⟨w1.heap.size, 0, none⟩) sm).trans CM.out
      have hlt' : (k : Int) < len := by omega
      by_cases hin : kz m (zs k) ∈ s.1
      · have hlti := List.idxOf_lt_length_of_mem hin
        have hbef : ∀ t, t < s.1.idxOf (kz m (zs k)) → (s.1.getD t 0 == kz m (zs k)) = false := fun t ht => idx_before _ _ t ht
        have hati : s.1.getD (s.1.idxOf (kz m (zs k))) 0 = kz m (zs k) := idx_at _ _ hin
        have hst : stepA m s (zs k) = (s.1, s.2.set (s.1.idxOf (kz m (zs k))) (fz (s.2.getD (s.1.idxOf (kz m (zs k))) 0) (zs k))) := if_pos hin
        generalize s.1.idxOf (kz m (zs k)) = i at hlti hbef hati hst
        obtain ⟨gk, ck, rfl⟩ := row_some T.rk (by omega)
        obtain ⟨ga, ca, rfl⟩ := row_some T.ra (by omega)
        have ea := row_at T.ra i (by omega)
        have fa := row_frozen T.ra i
        have ek : ∀ t, t < s.1.length → wr.cell? ⟨gk, t, none⟩ = some (.int .i64 (s.1.getD t 0)) := fun t ht => row_at T.rk t ht
        obtain ⟨y, hy⟩ : ∃ y, s.2.getD i 0 = y := ⟨_, rfl⟩
        rw [hy] at hst ea
        have HT := (show Hid _ from T)
        have EK := (show Hid _ from ek)
        have HBF := (show Hid _ from hbef)
        have HAT := (show Hid _ from hati)
        have HY := (show Hid _ from hy)
        have HST := (show Hid _ from hst)
        have FE := (show Hid _ from fe)
        clear T ek hbef hati hy hst fe hin
        have hi1 : (i : Int) < s.1.length := by omega
        have hi3 : (i : Int) < s.2.length := by omega
        go_wp2
        go_loopw [19, 20] (fun jv tv w5 => ∃ t : Nat, t ≤ i ∧ tv = .int .i64 t ∧ jv = .int .i64 (-1) ∧ w5 = wr) (fun _ tv _ => s.1.length - (intOf tv).toNat)
        case atStart => exact ⟨0, by omega, rfl, rfl, rfl⟩
        case round =>
          obtain ⟨t, ht, rfl, rfl, rfl⟩ := hrel
          have ht1 : (t : Int) < s.1.length := by omega
          by_cases hti : t < i
          · have et := EK.out t (by omega)
            have hne := HBF.out t hti
            obtain ⟨z, hz⟩ : ∃ z, s.1.getD t 0 = z := ⟨_, rfl⟩
            rw [hz] at et hne
            clear hz
            go_wp2
            go_roundw
            case rel => exact ⟨t + 1, by omega, by go_num, rfl, trivial⟩
            case measure => simp [intOf]; omega
          · obtain rfl : t = i := by omega
            have et := (EK.out t (by omega)).trans (by rw [HAT.out])
            go_wp2
            go_roundw
            case rel => exact ⟨k + 1, by omega, by go_num, by rw [FE.out, HST.out]; exact HT.out.put t _⟩
            case measure => simp [intOf]; omega
      · have hall : ∀ t, t < s.1.length → (s.1.getD t 0 == kz m (zs k)) = false := fun t ht => idx_none _ _ hin t ht
        have hst : stepA m s (zs k) = (s.1 ++ [kz m (zs k)], s.2 ++ [fz 0 (zs k)]) := if_neg hin
        obtain ⟨gk, sk, ck, rfl, hsk, ek⟩ := row_use T.rk
        obtain ⟨sa, ca, rfl⟩ := row_slice T.ra
        rw [hn2] at T
        have HT := (show Hid _ from T)
        have EK := (show Hid _ from ek)
        have HALL := (show Hid _ from hall)
        have HST := (show Hid _ from hst)
        have FE := (show Hid _ from fe)
        have HSK := (show Hid _ from hsk)
        clear T ek hall hst fe hin hsk
        go_wp2
        go_loopw [19, 20] (fun jv tv w5 => ∃ t : Nat, t ≤ s.1.length ∧ tv = .int .i64 t ∧ jv = .int .i64 (-1) ∧ w5 = wr) (fun _ tv _ => s.1.length - (intOf tv).toNat)
        case atStart => exact ⟨0, by omega, rfl, rfl, rfl⟩
        case round =>
          obtain ⟨t, ht, rfl, rfl, rfl⟩ := hrel
          by_cases hti : t < s.1.length
          · have ht1 : (t : Int) < s.1.length := by omega
            have et := EK.out t (by omega)
            have hne := HALL.out t hti
            obtain rfl := HSK.out (by omega)
            obtain ⟨z, hz⟩ : ∃ z, s.1.getD t 0 = z := ⟨_, rfl⟩
            rw [hz] at et hne
            clear hz
            go_wp2
            go_roundw
            case rel => exact ⟨t + 1, by omega, by go_num, rfl, trivial⟩
            case measure => simp [intOf]; omega
          · have hte : ¬ (t : Int) < s.1.length := by omega
            have c5 : W4.heap.size ≤ wr.heap.size := HT.out.bel.size
            go_wp2_with (first
              | (at_builtin; refine wpList_append_own_at _ rfl _ _ 22 rfl W4.heap.size 3 i0 (.int .i64 0) 1 8 Yba.underlying22 hi hz0 hz1 hz2 rfl (by decide) _ _ _ rfl (T1.out.ra.alloc _) ⟨w6.heap.size, 0, none⟩ 1 1 [.int .i64 0] rfl rfl (cell_one_new _ _ _) (by simp [Value.oneCell']) (by unfold maxLen; omega) (by omega) (by simp; omega) ?_; intro v2 w7 hown2 hgrow2 _ hat2; obtain ⟨g2, c2, rfl⟩ := ownsRow_succ hown2; have T2 := (show Hid _ from T1.out.acc (x := 0) (Nat.le_refl _) hown2 hgrow2 hat2); have ea := (row_at T2.out.ra s.1.length (by simp; omega)).trans (getD_last s.2 s.1.length hn2); have fa := row_frozen T2.out.ra s.1.length; clear hown2 hgrow2 hat2)
              | (at_builtin; refine wpList_append_own_at _ rfl _ _ 22 rfl W4.heap.size 3 i0 (.int .i64 0) 1 8 Yba.underlying22 hi hz0 hz1 hz2 rfl (by decide) _ _ _ rfl (HT.out.rk.alloc _) ⟨wr.heap.size, 0, none⟩ 1 1 [.int .i64 (kz m (zs k))] rfl rfl (cell_one_new _ _ _) (by simp [Value.oneCell']) (by unfold maxLen; omega) (by omega) (by simp; omega) ?_; intro v1 w6 hown1 hgrow1 _ hat1; obtain ⟨g1, c1, rfl⟩ := ownsRow_succ hown1; have T1 := (show Hid _ from HT.out.key (x := kz m (zs k)) (Nat.le_refl _) hown1 hgrow1 hat1); have c6 : W4.heap.size ≤ w6.heap.size := T1.out.bel.size; clear hown1 hgrow1 hat1))
            go_roundw
            case rel =>
              refine ⟨k + 1, by omega, by go_num, ?_⟩
              rw [FE.out, HST.out]
              have T3 := T2.out.put s.1.length (fz 0 (zs k))
              rw [show (s.2 ++ [(0 : Int)]).set s.1.length (fz 0 (zs k)) = s.2 ++ [fz 0 (zs k)] by rw [← hn2]; simp] at T3
              try rw [hn2] at T3
              rw [show wrap64 (wrap64 (zs k) + 1) = fz 0 (zs k) by rw [fz, Int.zero_mul, show wrap64 0 = 0 from Go.IntWalk.wrap64_in 0 (by omega), Int.zero_add]]
              exact T3
            case measure => simp [intOf]; omega
    · obtain rfl : k = len := by omega
      have hpos : 0 < k → 0 < (foldA m zs k).1.length := fun h => by
        cases k with
        | zero => omega
        | succ j => exact foldA_pos m zs j
      have hsz := T.bel.size
      have dk := (T.bel.cell (p := ⟨w1.heap.size + 1, 0, none⟩) LK.out.1.lt).trans LK.out.1.cell
      have dl := (T.bel.cell (p := ⟨w1.heap.size + 1 + 1, 0, none⟩) LA.out.1.lt).trans LA.out.1.cell
      have d0 := (T.bel.cell (p := ⟨w.heap.size, 0, none⟩) (by show w.heap.size < _; omega)).trans D0.out
      have oc : ∀ j, j < k → wr.cell? ⟨w.heap.size + 1, 0 + j, none⟩ = some (.int .i64 (zs j)) := fun j hj => by rw [Nat.zero_add]; exact (T.bel.cell (by show w.heap.size + 1 < _; omega)).trans (DC.out j hj)
      have xc : ∀ j, j < k → wr.cell? ⟨b, off + j, none⟩ = some (.int .i64 (zs j)) := fun j hj => (T.bel.cell (by show b < _; have := HB.out (by omega); omega)).trans (DE.out j hj)
      obtain ⟨g5, s5, c5, rfl, hs5, e5⟩ := row_use' (row_below LK.out.2 T.bel) k (by simp [ints])
      obtain ⟨g6, s6, c6, rfl, hs6, e6⟩ := row_use' (row_below LA.out.2 T.bel) k (by simp [ints])
      have e5' : ∀ j, j < k → wr.cell? ⟨g5, 0 + j, none⟩ = some (.int .i64 (zs j)) := fun j hj => (e5 j hj).trans (by rw [ints_getD zs k j hj])
      have e6' : ∀ j, j < k → wr.cell? ⟨g6, 0 + j, none⟩ = some (.int .i64 (zs j)) := fun j hj => (e6 j hj).trans (by rw [ints_getD zs k j hj])
      clear e5 e6 LK LA CM D0 DC DE
      generalize foldA m zs k = s at T hfl RS RT hpos
      obtain ⟨hn1, hn2⟩ := hfl
      obtain ⟨g1, s1, c1, rfl, hs1, e1⟩ := row_use' (row_below RS.out T.bel) s.1.length rfl
      obtain ⟨g2, s2, c2, rfl, hs2, e2⟩ := row_use' (row_below RT.out T.bel) s.1.length hn2
      obtain ⟨g3, s3, c3, rfl, hs3, e3⟩ := row_use' T.rk s.1.length rfl
      obtain ⟨g4, s4, c4, rfl, hs4, e4⟩ := row_use' T.ra s.1.length hn2
      have BF : Below w.heap.size w wr := HBB.out.trans (T.bel.mono (by have := HBB.out.size; omega))
      have HBF := (show Hid _ from BF)
      have OC := (show Hid _ from oc)
      have XC := (show Hid _ from xc)
      have H1 := (show Hid _ from hs1)
      have H2 := (show Hid _ from hs2)
      have H3 := (show Hid _ from hs3)
      have H4 := (show Hid _ from hs4)
      have H5 := (show Hid _ from hs5)
      have H6 := (show Hid _ from hs6)
      have E1 := (show Hid _ from e1)
      have E2 := (show Hid _ from e2)
      have E3 := (show Hid _ from e3)
      have E4 := (show Hid _ from e4)
      have E5 := (show Hid _ from e5')
      have E6 := (show Hid _ from e6')
      clear T RS RT BF oc xc hs1 hs2 hs3 hs4 hs5 hs6 e1 e2 e3 e4 e5' e6' HBB hi hz0 hz1 hz2
      generalize s.1.length = n at *
      have hn : n ≤ 1048576 := by omega
      have en0 := eql_nil0
      have en1 := eql_nil1
      rcases Nat.eq_zero_or_pos k with hk0 | hkp
      · obtain ⟨q1, q2⟩ := HN.out hk0
        simp only [Value.slice.injEq] at q1 q2
        obtain ⟨rfl, rfl, rfl⟩ := q1
        obtain ⟨rfl, _, rfl⟩ := q2
        subst hk0
        go_wp2_with (first
          | (have _ := q4; go_at_call 10; refine Calls.mono (eq_A _ 0 sl (some ⟨w.heap.size + 1, 0, none⟩) cap 0 b off (w.heap.size + 1) 0 zs (by omega) HSL.out (fun _ => rfl) (by exact XC.out) (by exact OC.out)) ?_; rintro e _ ⟨rfl, q5, rfl⟩)
          | (have _ := q3; go_at_call 10; refine Calls.mono (eq_A _ 0 s6 (some ⟨w.heap.size + 1, 0, none⟩) c6 0 g6 0 (w.heap.size + 1) 0 zs (by omega) H6.out (fun _ => rfl) (by exact E6.out) (by exact OC.out)) ?_; rintro e _ ⟨rfl, q4, rfl⟩)
          | (have _ := q2; go_at_call 10; refine Calls.mono (eq_A _ 0 s5 (some ⟨w.heap.size + 1, 0, none⟩) c5 0 g5 0 (w.heap.size + 1) 0 zs (by omega) H5.out (fun _ => rfl) (by exact E5.out) (by exact OC.out)) ?_; rintro e _ ⟨rfl, q3, rfl⟩)
          | (have _ := q1; go_at_call 10; refine Calls.mono (eq_A _ 0 none s4 0 c4 g2 0 g4 0 (fun j => s.2.getD j 0) (by omega) (fun h => absurd h (by omega)) H4.out (by exact E2.out) (by exact E4.out)) ?_; rintro e _ ⟨rfl, q2, rfl⟩)
          | (have _ := wr; go_at_call 10; refine Calls.mono (eq_A _ 0 none s3 0 c3 g1 0 g3 0 (fun j => s.1.getD j 0) (by omega) (fun h => absurd h (by omega)) H3.out (by exact E1.out) (by exact E3.out)) ?_; rintro e _ ⟨rfl, q1, rfl⟩))
        go_ret
        first
          | exact ⟨rfl, below_drewN (below_drewN (below_drewN (below_drewN (below_drewN HBF.out _) _) _) _) _⟩
          | exact ⟨rfl, below_drewN HBF.out _⟩
      · have hnp := hpos hkp
        obtain rfl := H1.out hnp
        obtain rfl := H2.out hnp
        have hk1 : ((k : Int) == 0) = false := by simp; omega
        clear HN
        go_wp2_with (first
          | (have _ := q4; go_at_call 10; refine Calls.mono (eq_A _ k sl (some ⟨w.heap.size + 1, 0, none⟩) cap k b off (w.heap.size + 1) 0 zs (by omega) HSL.out (fun _ => rfl) (by exact XC.out) (by exact OC.out)) ?_; rintro e _ ⟨rfl, q5, rfl⟩)
          | (have _ := q3; go_at_call 10; refine Calls.mono (eq_A _ k s6 (some ⟨w.heap.size + 1, 0, none⟩) c6 k g6 0 (w.heap.size + 1) 0 zs (by omega) H6.out (fun _ => rfl) (by exact E6.out) (by exact OC.out)) ?_; rintro e _ ⟨rfl, q4, rfl⟩)
          | (have _ := q2; go_at_call 10; refine Calls.mono (eq_A _ k s5 (some ⟨w.heap.size + 1, 0, none⟩) c5 k g5 0 (w.heap.size + 1) 0 zs (by omega) H5.out (fun _ => rfl) (by exact E5.out) (by exact OC.out)) ?_; rintro e _ ⟨rfl, q3, rfl⟩)
          | (have _ := q1; go_at_call 10; refine Calls.mono (eq_A _ n (some ⟨g2, 0, none⟩) s4 c2 c4 g2 0 g4 0 (fun j => s.2.getD j 0) (by omega) (fun _ => rfl) H4.out (by exact E2.out) (by exact E4.out)) ?_; rintro e _ ⟨rfl, q2, rfl⟩)
          | (have _ := wr; go_at_call 10; refine Calls.mono (eq_A _ n (some ⟨g1, 0, none⟩) s3 c1 c3 g1 0 g3 0 (fun j => s.1.getD j 0) (by omega) (fun _ => rfl) H3.out (by exact E1.out) (by exact E3.out)) ?_; rintro e _ ⟨rfl, q1, rfl⟩))
        go_ret
        first
          | exact ⟨rfl, below_drewN (below_drewN (below_drewN (below_drewN (below_drewN HBF.out _) _) _) _) _⟩
          | exact ⟨rfl, below_drewN HBF.out _⟩
end Go.Proofs.Ybulkdtls
