import Derived.Test.YbulkdtlsRows
import Derived.WalkKit
import Derived.WalkSpells
import Derived.WalkLawsBesides
namespace Go.Proofs.Ybulkdtls
open Go.RowKit

/-- What the consumer of LawS6011CWhole has at hand: how often it was called, the value, 'bad', 'stop'. -/
structure CW (w : World) (gc gv gb gs : Nat) (c v s : Int) : Prop where
  cc : w.cell? ⟨gc, 0, none⟩ = some (.int .i64 c)
  fc : w.frozen? ⟨gc, 0, none⟩ = false
  cv : w.cell? ⟨gv, 0, none⟩ = some (.int .i64 v)
  cb : w.cell? ⟨gb, 0, none⟩ = some (.bool false)
  cs : w.cell? ⟨gs, 0, none⟩ = some (.int .u16 s)
  nv : gc ≠ gv
  nb : gc ≠ gb
  ns : gc ≠ gs

theorem CW.step {w : World} {gc gv gb gs : Nat} {c v s : Int} (h : CW w gc gv gb gs c v s) (d : Int) : CW (w.setCell ⟨gc, 0, none⟩ (.int .i64 d)) gc gv gb gs d v s := by
  obtain ⟨cc, fc, cv, cb, cs, nv, nb, ns⟩ := h
  exact ⟨by go_simp, by simpa using fc, by go_simp, by go_simp, by go_simp, nv, nb, ns⟩

set_option maxHeartbeats 400000 in
theorem yield_yes (gc gv gb gs : Nat) (c v s : Int) (w : World) (h : CW w gc gv gb gs c v s) (hc0 : 0 ≤ c) (hc : c ≤ 1048576) (hs0 : 0 ≤ s) (hs1 : s ≤ 65535) (hs : s = 0 ∨ c + 1 < s) :
    Calls Yba.prog 16 #[.int .i64 v, .pointer (some ⟨gc, 0, none⟩), .pointer (some ⟨gv, 0, none⟩), .pointer (some ⟨gb, 0, none⟩), .pointer (some ⟨gs, 0, none⟩)] w fun e w' => e = .returned (.bool true) ∧ w' = w.setCell ⟨gc, 0, none⟩ (.int .i64 (c + 1)) := by
  obtain ⟨cc, fc, cv, cb, cs, nv, nb, ns⟩ := h
  rcases hs with rfl | hs
  · go_enter Yba.func16, Yba.ntmps16
    go_wp2
    go_ret
    exact ⟨rfl, rfl⟩
  · have hz : (s == 0) = false := by simp; omega
    go_enter Yba.func16, Yba.ntmps16
    go_wp2
    go_ret
    exact ⟨rfl, rfl⟩

set_option maxHeartbeats 400000 in
theorem yield_no (gc gv gb gs : Nat) (c v s : Int) (w : World) (h : CW w gc gv gb gs c v s) (hc0 : 0 ≤ c) (hc : c ≤ 1048576) (hs0 : 0 < s) (hs1 : s ≤ 65535) (hs : ¬ c + 1 < s) :
    Calls Yba.prog 16 #[.int .i64 v, .pointer (some ⟨gc, 0, none⟩), .pointer (some ⟨gv, 0, none⟩), .pointer (some ⟨gb, 0, none⟩), .pointer (some ⟨gs, 0, none⟩)] w fun e w' => e = .returned (.bool false) ∧ w' = w.setCell ⟨gc, 0, none⟩ (.int .i64 (c + 1)) := by
  obtain ⟨cc, fc, cv, cb, cs, nv, nb, ns⟩ := h
  have hz : (s == 0) = false := by simp; omega
  have hd : decide (c + 1 < s) = false := by simpa using hs
  go_enter Yba.func16, Yba.ntmps16
  go_wp2
  go_ret
  exact ⟨rfl, rfl⟩

/-- How often the consumer is called. -/
def want (n s : Int) : Int := if 0 < s ∧ s < (if n < 0 then 0 else n) then s else (if n < 0 then 0 else n)

/-- All that lies outside block g is as it was. -/
structure Only (g : Nat) (w w' : World) : Prop where
  size : w'.heap.size = w.heap.size
  bel : Below g w w'
  cell : ∀ a : Addr, a.block ≠ g → w'.cell? a = w.cell? a

theorem Only.refl (g : Nat) (w : World) : Only g w w := ⟨rfl, Below.refl _ _, fun _ _ => rfl⟩
theorem Only.set {g : Nat} {w w' : World} (h : Only g w w') (v : Value) : Only g w (w'.setCell ⟨g, 0, none⟩ v) :=
  ⟨by simpa using h.size, h.bel.setCell (Nat.le_refl _) _, fun a ha => by rw [World.cell?_setCell_other _ _ _ _ (by rintro rfl; exact ha rfl)]; exact h.cell a ha⟩

set_option maxHeartbeats 400000 in
theorem rep_any (gn gw gc gv gb gs : Nat) (n v s : Int) (w : World) (h : CW w gc gv gb gs 0 v s) (kn : w.cell? ⟨gn, 0, none⟩ = some (.int .i64 n)) (kw : w.cell? ⟨gw, 0, none⟩ = some (.int .i64 v)) (dw : gw ≠ gc)
    (hn : n ≤ 1048576) (hs0 : 0 ≤ s) (hs1 : s ≤ 65535) :
    Calls Yba.prog 17 #[.func (.func 16) #[] #[.pointer (some ⟨gc, 0, none⟩), .pointer (some ⟨gv, 0, none⟩), .pointer (some ⟨gb, 0, none⟩), .pointer (some ⟨gs, 0, none⟩)], .pointer (some ⟨gn, 0, none⟩), .pointer (some ⟨gw, 0, none⟩)] w
      fun e w' => e = .returned (.tuple #[]) ∧ CW w' gc gv gb gs (want n s) v s ∧ Only gc w w' := by
  go_enter Yba.func17, Yba.ntmps17
  go_wp2
  go_loopw [5] (fun i wr => ∃ k : Nat, (k : Int) ≤ (if n < 0 then 0 else n) ∧ i = .int .i64 k ∧ (s = 0 ∨ (k : Int) < s) ∧ CW wr gc gv gb gs k v s ∧ Only gc w wr) (fun i _ => (n - intOf i).toNat)
  case atStart => exact ⟨0, by split <;> omega, rfl, by omega, h, Only.refl _ _⟩
  case round =>
    obtain ⟨k, hk, rfl, hks, hc, ho⟩ := hrel
    have HO := (show Hid _ from ho)
    have kw' := (ho.cell ⟨gw, 0, none⟩ dw).trans kw
    clear h kn ho kw
    by_cases hlt : (k : Int) < n
    · have hk' : (k : Int) ≤ 1048576 := by omega
      by_cases hy : s = 0 ∨ (k : Int) + 1 < s
      · have HY := (show Hid _ from hy)
        have HS := (show Hid _ from hks)
        have HK := (show Hid _ from hk)
        clear hy hks hk
        go_wp2_with (go_at_call 16; refine (yield_yes gc gv gb gs k v s _ hc (by omega) hk' hs0 hs1 HY.out).mono ?_; rintro e w' ⟨rfl, rfl⟩)
        go_roundw
        case rel => exact ⟨k + 1, by split <;> omega, by go_num, HY.out, hc.step _, Only.set HO.out _⟩
        case measure => simp [intOf]; omega
      · have HY := (show Hid _ from hy)
        have HS := (show Hid _ from hks)
        have HK := (show Hid _ from hk)
        have hs0' : 0 < s := by omega
        have hno : ¬ (k : Int) + 1 < s := by omega
        have hw : want n s = (k : Int) + 1 := by
          unfold want
          split <;> split <;> omega
        have HW := (show Hid _ from hw)
        clear hy hks hk hw
        go_wp2_with (go_at_call 16; refine (yield_no gc gv gb gs k v s _ hc (by omega) hk' hs0' hs1 hno).mono ?_; rintro e w' ⟨rfl, rfl⟩)
        exact bodyPost_ret (results_none Yba.results17 _ _ _) rfl ⟨rfl, by rw [HW.out]; exact hc.step _, Only.set HO.out _⟩
    · have hw : want n s = (k : Int) := by
        unfold want
        split at hk <;> split <;> (try split) <;> omega
      have HW := (show Hid _ from hw)
      clear hk hw hks
      go_wp2
      go_end0
      exact ⟨rfl, by rw [HW.out]; exact hc, HO.out⟩


set_option maxHeartbeats 400000 in
theorem lawC_long (v n s : Int) (w : World) (hn : 1048576 < n) :
    Calls Yba.prog 5 #[.int .i64 v, .int .i64 n, .int .u16 s] w fun e w' => e = .returned (.bool true) ∧ Below w.heap.size w w' := by
  go_enter Yba.func5, Yba.ntmps5
  go_wp2
  go_ret
  exact ⟨rfl, ((Below.refl _ _).alloc (Nat.le_refl _) _).alloc (by simp) _⟩

/-- The four variables that the rounds read. -/
structure CV (w wr : World) (v n s : Int) : Prop where
  c0 : wr.cell? ⟨w.heap.size, 0, none⟩ = some (.int .i64 v)
  c1 : wr.cell? ⟨w.heap.size + 1, 0, none⟩ = some (.int .u16 s)
  c2 : wr.cell? ⟨w.heap.size + 1 + 1, 0, none⟩ = some (.int .i64 v)
  c3 : wr.cell? ⟨w.heap.size + 1 + 1 + 1, 0, none⟩ = some (.int .i64 n)
  lt : w.heap.size + 1 + 1 + 1 < wr.heap.size
  bel : Below w.heap.size w wr
theorem CV.cells {w wr : World} {v n s : Int} (h : CV w wr v n s) : CW ((wr.alloc (.cells #[.int .i64 0] 3)).alloc (.cells #[.bool false] 4)) wr.heap.size w.heap.size (wr.heap.size + 1) (w.heap.size + 1) 0 v s ∧
    ((wr.alloc (.cells #[.int .i64 0] 3)).alloc (.cells #[.bool false] 4)).cell? ⟨w.heap.size + 1 + 1 + 1, 0, none⟩ = some (.int .i64 n) ∧ ((wr.alloc (.cells #[.int .i64 0] 3)).alloc (.cells #[.bool false] 4)).cell? ⟨w.heap.size + 1 + 1, 0, none⟩ = some (.int .i64 v) := by
  obtain ⟨c0, c1, c2, c3, lt, bel⟩ := h
  have B : Below wr.heap.size wr ((wr.alloc (.cells #[.int .i64 0] 3)).alloc (.cells #[.bool false] 4)) := ((Below.refl _ _).alloc (Nat.le_refl _) _).alloc (by simp) _
  refine ⟨⟨by simp, by simp, (B.cell (by show w.heap.size < _; omega)).trans c0, by simp, (B.cell (by show w.heap.size + 1 < _; omega)).trans c1, by omega, by omega, by omega⟩, (B.cell (by show w.heap.size + 1 + 1 + 1 < _; omega)).trans c3, (B.cell (by show w.heap.size + 1 + 1 < _; omega)).trans c2⟩
theorem CV.after {w wr w' : World} {v n s : Int} (h : CV w wr v n s) (o : Only wr.heap.size ((wr.alloc (.cells #[.int .i64 0] 3)).alloc (.cells #[.bool false] 4)) w') : CV w w' v n s := by
  obtain ⟨c0, c1, c2, c3, lt, bel⟩ := h
  have B : Below wr.heap.size wr w' := (((Below.refl _ _).alloc (Nat.le_refl _) _).alloc (by simp) _).trans o.bel
  refine ⟨(B.cell (by show w.heap.size < _; omega)).trans c0, (B.cell (by show w.heap.size + 1 < _; omega)).trans c1, (B.cell (by show w.heap.size + 1 + 1 < _; omega)).trans c2, (B.cell (by show w.heap.size + 1 + 1 + 1 < _; omega)).trans c3, by have := B.size; omega, bel.trans (B.mono (by omega))⟩
theorem CV.start (w : World) (v n s : Int) : CV w ((((w.alloc (.cells #[.int .i64 v] 3)).alloc (.cells #[.int .u16 s] 36)).alloc (.cells #[.int .i64 v] 3)).alloc (.cells #[.int .i64 n] 3)) v n s := by
  refine ⟨by go_simp, by go_simp, by go_simp, by go_simp, by simp, ((((Below.refl _ _).alloc (Nat.le_refl _) _).alloc (by simp) _).alloc (by simp; omega) _).alloc (by simp; omega) _⟩

set_option maxHeartbeats 800000 in
theorem lawC_1 (v n s : Int) (w : World) (hn : n ≤ 1048576) (hs0 : 0 ≤ s) (hs1 : s ≤ 65535) (h1 : n < 0) (h2 : s ≤ 0) :
    Calls Yba.prog 5 #[.int .i64 v, .int .i64 n, .int .u16 s] w fun e w' => e = .returned (.bool true) ∧ Below w.heap.size w w' := by
  have h0 : ¬ (1048576 : Int) < n := by omega
  have hw : want n s = 0 := by unfold want; split <;> split <;> omega
  have HW := (show Hid _ from hw)
  have h3 : ¬ 0 < s := by omega
  clear hw
  have S0 := CV.start w v n s
  go_enter Yba.func5, Yba.ntmps5
  go_wp2
  go_loopw [9] (fun i wr => ∃ k : Nat, k ≤ 2 ∧ i = .int .i64 k ∧ CV w wr v n s) (fun i _ => 2 - (intOf i).toNat)
  case atStart => exact ⟨0, by omega, rfl, S0⟩
  case round =>
    obtain ⟨k, hk, rfl, hc⟩ := hrel
    clear S0
    by_cases hlt : k < 2
    · have hlt' : (k : Int) < 2 := by omega
      obtain ⟨k1, k2, k3⟩ := hc.cells
      have lt := hc.lt
      go_wp2_with fail
      refine (rep_any (w.heap.size + 1 + 1 + 1) (w.heap.size + 1 + 1) wr.heap.size w.heap.size (wr.heap.size + 1) (w.heap.size + 1) n v s _ k1 k2 k3 (by omega) hn hs0 hs1).mono ?_
      rintro e w' ⟨rfl, r1, r2⟩
      have hc' := hc.after r2
      rw [HW.out] at r1
      have q1 := r1.cc
      have q2 := r1.cb
      clear r1 r2 k1 k2 k3 hc
      go_wp2
      go_roundw
      case rel => exact ⟨k + 1, by omega, by go_num, hc'⟩
      case measure => simp [intOf]; omega
    · obtain rfl : k = 2 := by omega
      have hb := hc.bel
      go_wp2
      go_ret
      exact ⟨rfl, hb⟩

set_option maxHeartbeats 800000 in
theorem lawC_2 (v n s : Int) (w : World) (hn : n ≤ 1048576) (hs0 : 0 ≤ s) (hs1 : s ≤ 65535) (h1 : n < 0) (h2 : 0 < s) :
    Calls Yba.prog 5 #[.int .i64 v, .int .i64 n, .int .u16 s] w fun e w' => e = .returned (.bool true) ∧ Below w.heap.size w w' := by
  have h0 : ¬ (1048576 : Int) < n := by omega
  have hw : want n s = 0 := by unfold want; split <;> split <;> omega
  have HW := (show Hid _ from hw)
  have h3 : ¬ s < 0 := by omega
  clear hw
  have S0 := CV.start w v n s
  go_enter Yba.func5, Yba.ntmps5
  go_wp2
  go_loopw [9] (fun i wr => ∃ k : Nat, k ≤ 2 ∧ i = .int .i64 k ∧ CV w wr v n s) (fun i _ => 2 - (intOf i).toNat)
  case atStart => exact ⟨0, by omega, rfl, S0⟩
  case round =>
    obtain ⟨k, hk, rfl, hc⟩ := hrel
    clear S0
    by_cases hlt : k < 2
    · have hlt' : (k : Int) < 2 := by omega
      obtain ⟨k1, k2, k3⟩ := hc.cells
      have lt := hc.lt
      go_wp2_with fail
      refine (rep_any (w.heap.size + 1 + 1 + 1) (w.heap.size + 1 + 1) wr.heap.size w.heap.size (wr.heap.size + 1) (w.heap.size + 1) n v s _ k1 k2 k3 (by omega) hn hs0 hs1).mono ?_
      rintro e w' ⟨rfl, r1, r2⟩
      have hc' := hc.after r2
      rw [HW.out] at r1
      have q1 := r1.cc
      have q2 := r1.cb
      clear r1 r2 k1 k2 k3 hc
      go_wp2
      go_roundw
      case rel => exact ⟨k + 1, by omega, by go_num, hc'⟩
      case measure => simp [intOf]; omega
    · obtain rfl : k = 2 := by omega
      have hb := hc.bel
      go_wp2
      go_ret
      exact ⟨rfl, hb⟩

set_option maxHeartbeats 800000 in
theorem lawC_3 (v n s : Int) (w : World) (hn : n ≤ 1048576) (hs0 : 0 ≤ s) (hs1 : s ≤ 65535) (h1 : ¬ n < 0) (h2 : s ≤ 0) :
    Calls Yba.prog 5 #[.int .i64 v, .int .i64 n, .int .u16 s] w fun e w' => e = .returned (.bool true) ∧ Below w.heap.size w w' := by
  have h0 : ¬ (1048576 : Int) < n := by omega
  have hw : want n s = n := by unfold want; split <;> split <;> omega
  have HW := (show Hid _ from hw)
  have h3 : ¬ 0 < s := by omega
  clear hw
  have S0 := CV.start w v n s
  go_enter Yba.func5, Yba.ntmps5
  go_wp2
  go_loopw [9] (fun i wr => ∃ k : Nat, k ≤ 2 ∧ i = .int .i64 k ∧ CV w wr v n s) (fun i _ => 2 - (intOf i).toNat)
  case atStart => exact ⟨0, by omega, rfl, S0⟩
  case round =>
    obtain ⟨k, hk, rfl, hc⟩ := hrel
    clear S0
    by_cases hlt : k < 2
    · have hlt' : (k : Int) < 2 := by omega
      obtain ⟨k1, k2, k3⟩ := hc.cells
      have lt := hc.lt
      go_wp2_with fail
      refine (rep_any (w.heap.size + 1 + 1 + 1) (w.heap.size + 1 + 1) wr.heap.size w.heap.size (wr.heap.size + 1) (w.heap.size + 1) n v s _ k1 k2 k3 (by omega) hn hs0 hs1).mono ?_
      rintro e w' ⟨rfl, r1, r2⟩
      have hc' := hc.after r2
      rw [HW.out] at r1
      have q1 := r1.cc
      have q2 := r1.cb
      clear r1 r2 k1 k2 k3 hc
      go_wp2
      go_roundw
      case rel => exact ⟨k + 1, by omega, by go_num, hc'⟩
      case measure => simp [intOf]; omega
    · obtain rfl : k = 2 := by omega
      have hb := hc.bel
      go_wp2
      go_ret
      exact ⟨rfl, hb⟩

set_option maxHeartbeats 800000 in
theorem lawC_4 (v n s : Int) (w : World) (hn : n ≤ 1048576) (hs0 : 0 ≤ s) (hs1 : s ≤ 65535) (h1 : ¬ n < 0) (h2 : 0 < s) (h3 : s < n) :
    Calls Yba.prog 5 #[.int .i64 v, .int .i64 n, .int .u16 s] w fun e w' => e = .returned (.bool true) ∧ Below w.heap.size w w' := by
  have h0 : ¬ (1048576 : Int) < n := by omega
  have hw : want n s = s := by unfold want; split <;> split <;> omega
  have HW := (show Hid _ from hw)
  clear hw
  have S0 := CV.start w v n s
  go_enter Yba.func5, Yba.ntmps5
  go_wp2
  go_loopw [9] (fun i wr => ∃ k : Nat, k ≤ 2 ∧ i = .int .i64 k ∧ CV w wr v n s) (fun i _ => 2 - (intOf i).toNat)
  case atStart => exact ⟨0, by omega, rfl, S0⟩
  case round =>
    obtain ⟨k, hk, rfl, hc⟩ := hrel
    clear S0
    by_cases hlt : k < 2
    · have hlt' : (k : Int) < 2 := by omega
      obtain ⟨k1, k2, k3⟩ := hc.cells
      have lt := hc.lt
      go_wp2_with fail
      refine (rep_any (w.heap.size + 1 + 1 + 1) (w.heap.size + 1 + 1) wr.heap.size w.heap.size (wr.heap.size + 1) (w.heap.size + 1) n v s _ k1 k2 k3 (by omega) hn hs0 hs1).mono ?_
      rintro e w' ⟨rfl, r1, r2⟩
      have hc' := hc.after r2
      rw [HW.out] at r1
      have q1 := r1.cc
      have q2 := r1.cb
      clear r1 r2 k1 k2 k3 hc
      go_wp2
      go_roundw
      case rel => exact ⟨k + 1, by omega, by go_num, hc'⟩
      case measure => simp [intOf]; omega
    · obtain rfl : k = 2 := by omega
      have hb := hc.bel
      go_wp2
      go_ret
      exact ⟨rfl, hb⟩

set_option maxHeartbeats 800000 in
theorem lawC_5 (v n s : Int) (w : World) (hn : n ≤ 1048576) (hs0 : 0 ≤ s) (hs1 : s ≤ 65535) (h1 : ¬ n < 0) (h2 : 0 < s) (h3 : ¬ s < n) :
    Calls Yba.prog 5 #[.int .i64 v, .int .i64 n, .int .u16 s] w fun e w' => e = .returned (.bool true) ∧ Below w.heap.size w w' := by
  have h0 : ¬ (1048576 : Int) < n := by omega
  have hw : want n s = n := by unfold want; split <;> split <;> omega
  have HW := (show Hid _ from hw)
  clear hw
  have S0 := CV.start w v n s
  go_enter Yba.func5, Yba.ntmps5
  go_wp2
  go_loopw [9] (fun i wr => ∃ k : Nat, k ≤ 2 ∧ i = .int .i64 k ∧ CV w wr v n s) (fun i _ => 2 - (intOf i).toNat)
  case atStart => exact ⟨0, by omega, rfl, S0⟩
  case round =>
    obtain ⟨k, hk, rfl, hc⟩ := hrel
    clear S0
    by_cases hlt : k < 2
    · have hlt' : (k : Int) < 2 := by omega
      obtain ⟨k1, k2, k3⟩ := hc.cells
      have lt := hc.lt
      go_wp2_with fail
      refine (rep_any (w.heap.size + 1 + 1 + 1) (w.heap.size + 1 + 1) wr.heap.size w.heap.size (wr.heap.size + 1) (w.heap.size + 1) n v s _ k1 k2 k3 (by omega) hn hs0 hs1).mono ?_
      rintro e w' ⟨rfl, r1, r2⟩
      have hc' := hc.after r2
      rw [HW.out] at r1
      have q1 := r1.cc
      have q2 := r1.cb
      clear r1 r2 k1 k2 k3 hc
      go_wp2
      go_roundw
      case rel => exact ⟨k + 1, by omega, by go_num, hc'⟩
      case measure => simp [intOf]; omega
    · obtain rfl : k = 2 := by omega
      have hb := hc.bel
      go_wp2
      go_ret
      exact ⟨rfl, hb⟩

theorem lawC_all (v n s : Int) (w : World) (hs0 : 0 ≤ s) (hs1 : s ≤ 65535) :
    Calls Yba.prog 5 #[.int .i64 v, .int .i64 n, .int .u16 s] w fun e w' => e = .returned (.bool true) ∧ Below w.heap.size w w' := by
  by_cases hn : 1048576 < n
  · exact lawC_long v n s w hn
  by_cases h1 : n < 0
  · by_cases h2 : 0 < s
    · exact lawC_2 v n s w (by omega) hs0 hs1 h1 h2
    · exact lawC_1 v n s w (by omega) hs0 hs1 h1 (by omega)
  · by_cases h2 : 0 < s
    · by_cases h3 : s < n
      · exact lawC_4 v n s w (by omega) hs0 hs1 h1 h2 h3
      · exact lawC_5 v n s w (by omega) hs0 hs1 h1 h2 h3
    · exact lawC_3 v n s w (by omega) hs0 hs1 h1 (by omega)
end Go.Proofs.Ybulkdtls
