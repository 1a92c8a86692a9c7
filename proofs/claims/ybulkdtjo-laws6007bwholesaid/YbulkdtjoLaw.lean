import Derived.Test.YbulkdtjoBuild
import Derived.Deep.QuietTactic
import Derived.BigQuiet
import Derived.Laws.Pointers
import Derived.LaidEqlPtr
namespace Go.Proofs.Ybulkdtjo
open Go.RowKit

set_option maxHeartbeats 400000 in
theorem law_long (a : Option Addr) (n cap : Nat) (t : ByteArray) (up : Bool) (p : Int) (w : World) (hn : 1048576 < n) (hm : n ≤ maxLen) :
    Calls Yba.prog 3 #[.slice a n cap, .string t, .bool up, .int .u32 p] w fun e w' => e = .returned (.bool true) ∧ Below w.heap.size w w' := by
  unfold maxLen at hm
  have h1 : (1048576 : Int) < n := by omega
  go_enter Yba.func3, Yba.ntmps3
  go_wp2
  go_ret
  exact ⟨rfl, Below.refl _ _⟩

set_option maxHeartbeats 400000 in
theorem law_nil (t : ByteArray) (up : Bool) (p : Int) (w : World) :
    Calls Yba.prog 3 #[.slice none 0 0, .string t, .bool up, .int .u32 p] w fun e w' => e = .returned (.bool true) ∧ Below w.heap.size w w' := by
  cases up
  all_goals
    go_enter Yba.func3, Yba.ntmps3
    go_wp2_with (first
      | (go_at_call 4; refine (build_nil _).mono ?_; rintro e w' ⟨rfl, rfl⟩)
      | (go_at_call 5; refine (find_nil t _).mono ?_; rintro e w' ⟨rfl, rfl⟩))
    refine wp_loop_rounds 1 ?_
    rw [rounds_succ]
    go_wp2
    refine wp_loop_rounds 1 ?_
    rw [rounds_succ]
    go_wp2
    go_ret
    exact ⟨rfl, Below.refl _ _⟩

theorem Yba.comp9 : (Yba.prog.info? 9).map (·.comparable) = some true := by kernel_rfl
theorem Yba.comp4 : (Yba.prog.info? 4).map (·.comparable) = some true := by kernel_rfl
theorem Yba.some33 : (Yba.prog.info? 33).map (·.size) = some 4 := by kernel_rfl

theorem neq_ptr_same (a : Addr) (w : World) : (binOp .neq 28 (.pointer (some a)) (.pointer (some a))).run Yba.prog w = .ok (.bool false) w := by
  obtain ⟨j, hj, _⟩ := Option.map_eq_some_iff.1 Yba.some33
  have h : ∀ d : Nat, (Op.equalIn (d + 1) 28 (.pointer (some a)) (.pointer (some a))).run Yba.prog w = .ok true w := fun d => by
    simp [Op.equalIn, run_underlying Yba.underlying28, sizeOf, typeInfo, hj, run_sameAddr_same]
  simp only [binOp]
  simp [Op.equal, Op.maxDepth, h 9999]
theorem neq_str_same (s : ByteArray) (w : World) : (binOp .neq 20 (.iface 9 (.string s)) (.iface 9 (.string s))).run Yba.prog w = .ok (.bool false) w := by
  obtain ⟨j, hj, hc⟩ := Option.map_eq_some_iff.1 Yba.comp9
  have h : ∀ d : Nat, (Op.equalIn (d + 2) 20 (.iface 9 (.string s)) (.iface 9 (.string s))).run Yba.prog w = .ok true w := fun d => by
    simp [Op.equalIn, run_underlying Yba.underlying20, run_underlying Yba.underlying9, typeInfo, hj, hc, beq_toListBytes]
  simp only [binOp]
  simp [Op.equal, Op.maxDepth, h 9998]
theorem neq_bool_same (b : Bool) (w : World) : (binOp .neq 20 (.iface 4 (.bool b)) (.iface 4 (.bool b))).run Yba.prog w = .ok (.bool false) w := by
  obtain ⟨j, hj, hc⟩ := Option.map_eq_some_iff.1 Yba.comp4
  have h : ∀ d : Nat, (Op.equalIn (d + 2) 20 (.iface 4 (.bool b)) (.iface 4 (.bool b))).run Yba.prog w = .ok true w := fun d => by
    simp [Op.equalIn, run_underlying Yba.underlying20, run_underlying Yba.underlying4, typeInfo, hj, hc]
  simp only [binOp]
  simp [Op.equal, Op.maxDepth, h 9998]
theorem neq_val_same (st bv : Nat → Bool) (sv : Nat → ByteArray) (j : Nat) (w : World) : (binOp .neq 20 (val st bv sv j) (val st bv sv j)).run Yba.prog w = .ok (.bool false) w := by
  unfold val
  split
  · exact neq_str_same _ w
  · exact neq_bool_same _ w

theorem Opts.below {w w' : World} {b off n : Nat} {nm : Nat → ByteArray} {st bv : Nat → Bool} {sv : Nat → ByteArray} (O : Opts w b off n nm st bv sv) (hb : n = 0 ∨ b < w.heap.size) (bel : Below w.heap.size w w') : Opts w' b off n nm st bv sv := by
  refine ⟨fun j hj => ?_, fun j hj => ?_, fun j hj => ?_, fun j hj => ?_⟩
  · exact (bel.cell (by show b < _; omega)).trans (O.c0 j hj)
  · exact (bel.cell (by show b < _; omega)).trans (O.c1 j hj)
  · exact (bel.cell (by show b < _; omega)).trans (O.c2 j hj)
  · exact (bel.cell (by show b < _; omega)).trans (O.c3 j hj)
theorem Laid.lt {w : World} {g n k : Nat} {nm : Nat → ByteArray} {st bv : Nat → Bool} {sv : Nat → ByteArray} (L : Laid w g n k nm st bv sv) : g < w.heap.size := by
  obtain ⟨C, h, _⟩ := L
  rcases Nat.lt_or_ge g w.heap.size with h' | h'
  · exact h'
  · rw [Array.getElem?_eq_none h'] at h; cases h
theorem Laid.below {w w' : World} {g n k : Nat} {nm : Nat → ByteArray} {st bv : Nat → Bool} {sv : Nat → ByteArray} (L : Laid w g n k nm st bv sv) (bel : Below w.heap.size w w') : Laid w' g n k nm st bv sv := by
  have hl := L.lt
  obtain ⟨C, h, hs, he⟩ := L
  exact ⟨C, (bel.block g hl).trans h, hs, he⟩
theorem Laid.name {w : World} {g n : Nat} {nm : Nat → ByteArray} {st bv : Nat → Bool} {sv : Nat → ByteArray} (L : Laid w g n n nm st bv sv) (j : Nat) (hj : j < n) : w.cell? ⟨g, j * 4, none⟩ = some (.string (nm j)) := by
  obtain ⟨C, h, hs, he⟩ := L
  rw [cell_of_row w g _ C 33 _ h]; exact (he j hj).1
theorem Laid.value {w : World} {g n : Nat} {nm : Nat → ByteArray} {st bv : Nat → Bool} {sv : Nat → ByteArray} (L : Laid w g n n nm st bv sv) (j : Nat) (hj : j < n) : w.cell? ⟨g, j * 4 + 1, none⟩ = some (val st bv sv j) := by
  obtain ⟨C, h, hs, he⟩ := L
  rw [cell_of_row w g _ C 33 _ h]; exact (he j hj).2

/-- What the scan from the back has seen, of the options k and up. -/
def Seen (nm : Nat → ByteArray) (t : ByteArray) (n k : Nat) (ix : Value) : Prop :=
  (ix = .int .i64 (-1) ∧ ∀ j, k ≤ j → j < n → nm j ≠ t) ∨ ∃ i : Nat, k ≤ i ∧ i < n ∧ ix = .int .i64 i ∧ nm i = t ∧ ∀ j, k ≤ j → j < i → nm j ≠ t
theorem Seen.hit {nm : Nat → ByteArray} {t : ByteArray} {n m : Nat} (hm : m < n) (he : nm m = t) : Seen nm t n m (.int .i64 m) :=
  Or.inr ⟨m, Nat.le_refl _, hm, rfl, he, fun j h1 h2 => absurd h1 (by omega)⟩
theorem Seen.miss {nm : Nat → ByteArray} {t : ByteArray} {n m : Nat} {ix : Value} (h : Seen nm t n (m + 1) ix) (he : nm m ≠ t) : Seen nm t n m ix := by
  rcases h with ⟨h1, h2⟩ | ⟨i, h1, h2, h3, h4, h5⟩
  · exact Or.inl ⟨h1, fun j a b => by
      rcases Nat.eq_or_lt_of_le a with e | e
      · exact e ▸ he
      · exact h2 j e b⟩
  · exact Or.inr ⟨i, by omega, h2, h3, h4, fun j a b => by
      rcases Nat.eq_or_lt_of_le a with e | e
      · exact e ▸ he
      · exact h5 j e b⟩
/-- Both scans end alike. -/
theorem Seen.found {g : Nat} {nm : Nat → ByteArray} {t : ByteArray} {n : Nat} {ix r : Value} (h : Seen nm t n 0 ix) (f : Found g nm t n r) :
    (ix = .int .i64 (-1) ∧ r = .pointer none) ∨ ∃ i : Nat, i < n ∧ ix = .int .i64 i ∧ r = .pointer (some ⟨g, i * 4, none⟩) := by
  rcases h with ⟨h1, h2⟩ | ⟨i, _, h2, h3, h4, h5⟩ <;> rcases f with ⟨f1, f2⟩ | ⟨k, f1, f2, f3, f4⟩
  · exact Or.inl ⟨h1, f1⟩
  · exact absurd f3 (h2 k (by omega) f1)
  · exact absurd h4 (f2 i h2)
  · obtain rfl : i = k := by
      rcases Nat.lt_trichotomy i k with h | h | h
      · exact absurd h4 (f4 i h)
      · exact h
      · exact absurd f3 (h5 k (by omega) h)
    exact Or.inr ⟨i, h2, h3, f2⟩

set_option maxHeartbeats 2000000 in
theorem law_pick (b off n cap : Nat) (nm : Nat → ByteArray) (st bv : Nat → Bool) (sv : Nat → ByteArray) (t : ByteArray) (p : Int) (hp : 0 ≤ p) (hp' : p ≤ 4294967295) (hpos : 0 < n) (w : World) (hn : n ≤ 1048576) (O : Opts w b off n nm st bv sv) (hb : n = 0 ∨ b < w.heap.size) :
    Calls Yba.prog 3 #[.slice (some ⟨b, off, none⟩) n cap, .string t, .bool true, .int .u32 p] w fun e w' => e = .returned (.bool true) ∧ Below w.heap.size w w' := by
  have h0 : ¬ (1048576 : Int) < n := by omega
  have i1 : 0 ≤ p % (n : Int) := Int.emod_nonneg _ (by omega)
  have i2 : p % (n : Int) < n := Int.emod_lt_of_pos _ (by omega)
  obtain ⟨t', hc⟩ : ∃ t', w.cell? ⟨b, off + (p % (n : Int)).toNat * 4, none⟩ = some (.string t') := ⟨_, O.c0 _ (by omega)⟩
  have hpos' : (0 : Int) < n := by omega
  go_enter Yba.func3, Yba.ntmps3
  go_wp2_with fail
  refine (build_any b off n cap nm st bv sv _ hn O hb).mono ?_
  rintro e w1 ⟨rfl, L1, B1⟩
  go_wp2_with fail
  have s1 := B1.size
  refine (build_any b off n cap nm st bv sv w1 hn (O.below hb B1) (by omega)).mono ?_
  rintro e w2 ⟨rfl, L2, B2⟩
  have L1' := L1.below B2
  have B3 : Below w.heap.size w w2 := B1.trans (B2.mono s1)
  clear L1 B1 B2 O hb s1
  go_wp2_with fail
  refine (find_any w.heap.size nm t' n _ hn L1'.name).mono ?_
  rintro e w' ⟨r, rfl, hf, rfl⟩
  have HF := (show Hid _ from hf)
  have HN1 := (show Hid _ from L1'.name)
  have HN2 := (show Hid _ from L2.name)
  have HV1 := (show Hid _ from L1'.value)
  have HV2 := (show Hid _ from L2.value)
  clear hf L1' L2
  go_wp2
  go_loop [12, 13] (fun ix jv => ∃ k : Nat, k ≤ n ∧ jv = .int .i64 ((k : Int) - 1) ∧ Seen nm t' n k ix) (fun _ jv => (intOf jv + 1).toNat)
  case atStart => exact ⟨n, Nat.le_refl _, rfl, Or.inl ⟨rfl, fun j h1 h2 => absurd h1 (by omega)⟩⟩
  case round =>
    obtain ⟨k, hk, rfl, hs⟩ := hrel
    have HS := (show Hid _ from hs)
    clear hs
    cases k with
    | succ m =>
      rw [show (((m + 1 : Nat) : Int) - 1) = (m : Int) from by omega]
      have d1 := HN2.out m (by omega)
      have hlt : (m : Int) < n := by omega
      by_cases he : nm m = t'
      · have hq := list_eq he
        have HE : Hid (nm m = t') := he
        clear he
        go_wp2
        go_round
        case rel => exact ⟨m, by omega, rfl, Seen.hit (by omega) HE.out⟩
        case measure => simp [intOf]
      · have hq := list_ne he
        have HE : Hid (nm m ≠ t') := he
        clear he
        go_wp2
        go_round
        case rel => exact ⟨m, by omega, rfl, Seen.miss HS.out HE.out⟩
        case measure => simp [intOf]
    | zero =>
      have np := neq_ptr_same
      rcases Seen.found HS.out HF.out with ⟨rfl, rfl⟩ | ⟨i, hi, rfl, rfl⟩
      · clear HS HF np
        go_wp2
        go_loopw [14] (fun iv wr => ∃ k : Nat, k ≤ n ∧ iv = .int .i64 k ∧ ∃ m, wr = w'.drewN m) (fun iv _ => n - (intOf iv).toNat)
        case atStart => exact ⟨0, by omega, rfl, 0, rfl⟩
        case round =>
          obtain ⟨k, hk, rfl, m, rfl⟩ := hrel
          by_cases hlt : k < n
          · have d1 := HN1.out k hlt
            have d2 := HN2.out k hlt
            have d3 := HV1.out k hlt
            have d4 := HV2.out k hlt
            have hv := neq_val_same st bv sv k
            obtain ⟨tv, xv, ev⟩ : ∃ tv xv, val st bv sv k = .iface tv xv := by unfold val; split <;> exact ⟨_, _, rfl⟩
            rw [ev] at d3 d4 hv
            clear ev
            have hlt' : (k : Int) < n := by omega
            have hbd : k ≤ 1048576 := by omega
            clear hn hlt
            go_wp2
            go_quiet (fail)
            go_wp2
            go_roundw
            case rel => exact ⟨k + 1, by omega, by go_num, _, rfl⟩
            case measure => simp [intOf]; omega
          · obtain rfl : k = n := by omega
            go_wp2
            go_ret
            exact ⟨rfl, below_drewN B3 _⟩
      · have hi' : (i : Int) < n := by omega
        have hi0 : decide ((i : Int) < 0) = false := by simp
        have np' := np ⟨w.heap.size, i * 4, none⟩ w'
        clear HS HF np
        go_wp2
        go_loopw [14] (fun iv wr => ∃ k : Nat, k ≤ n ∧ iv = .int .i64 k ∧ ∃ m, wr = w'.drewN m) (fun iv _ => n - (intOf iv).toNat)
        case atStart => exact ⟨0, by omega, rfl, 0, rfl⟩
        case round =>
          obtain ⟨k, hk, rfl, m, rfl⟩ := hrel
          by_cases hlt : k < n
          · have d1 := HN1.out k hlt
            have d2 := HN2.out k hlt
            have d3 := HV1.out k hlt
            have d4 := HV2.out k hlt
            have hv := neq_val_same st bv sv k
            obtain ⟨tv, xv, ev⟩ : ∃ tv xv, val st bv sv k = .iface tv xv := by unfold val; split <;> exact ⟨_, _, rfl⟩
            rw [ev] at d3 d4 hv
            clear ev
            have hlt' : (k : Int) < n := by omega
            have hbd : k ≤ 1048576 := by omega
            clear hn hlt
            go_wp2
            go_quiet (fail)
            go_wp2
            go_roundw
            case rel => exact ⟨k + 1, by omega, by go_num, _, rfl⟩
            case measure => simp [intOf]; omega
          · obtain rfl : k = n := by omega
            go_wp2
            go_ret
            exact ⟨rfl, below_drewN B3 _⟩
set_option maxHeartbeats 2000000 in
theorem law_plain (b off n cap : Nat) (nm : Nat → ByteArray) (st bv : Nat → Bool) (sv : Nat → ByteArray) (t : ByteArray) (p : Int) (w : World) (hn : n ≤ 1048576) (O : Opts w b off n nm st bv sv) (hb : n = 0 ∨ b < w.heap.size) :
    Calls Yba.prog 3 #[.slice (some ⟨b, off, none⟩) n cap, .string t, .bool false, .int .u32 p] w fun e w' => e = .returned (.bool true) ∧ Below w.heap.size w w' := by
  have h0 : ¬ (1048576 : Int) < n := by omega
  go_enter Yba.func3, Yba.ntmps3
  go_wp2_with fail
  refine (build_any b off n cap nm st bv sv _ hn O hb).mono ?_
  rintro e w1 ⟨rfl, L1, B1⟩
  go_wp2_with fail
  have s1 := B1.size
  refine (build_any b off n cap nm st bv sv w1 hn (O.below hb B1) (by omega)).mono ?_
  rintro e w2 ⟨rfl, L2, B2⟩
  have L1' := L1.below B2
  have B3 : Below w.heap.size w w2 := B1.trans (B2.mono s1)
  clear L1 B1 B2 O hb s1
  go_wp2_with fail
  refine (find_any w.heap.size nm t n _ hn L1'.name).mono ?_
  rintro e w' ⟨r, rfl, hf, rfl⟩
  have HF := (show Hid _ from hf)
  have HN1 := (show Hid _ from L1'.name)
  have HN2 := (show Hid _ from L2.name)
  have HV1 := (show Hid _ from L1'.value)
  have HV2 := (show Hid _ from L2.value)
  clear hf L1' L2
  go_wp2
  go_loop [12, 13] (fun ix jv => ∃ k : Nat, k ≤ n ∧ jv = .int .i64 ((k : Int) - 1) ∧ Seen nm t n k ix) (fun _ jv => (intOf jv + 1).toNat)
  case atStart => exact ⟨n, Nat.le_refl _, rfl, Or.inl ⟨rfl, fun j h1 h2 => absurd h1 (by omega)⟩⟩
  case round =>
    obtain ⟨k, hk, rfl, hs⟩ := hrel
    have HS := (show Hid _ from hs)
    clear hs
    cases k with
    | succ m =>
      rw [show (((m + 1 : Nat) : Int) - 1) = (m : Int) from by omega]
      have d1 := HN2.out m (by omega)
      have hlt : (m : Int) < n := by omega
      by_cases he : nm m = t
      · have hq := list_eq he
        have HE : Hid (nm m = t) := he
        clear he
        go_wp2
        go_round
        case rel => exact ⟨m, by omega, rfl, Seen.hit (by omega) HE.out⟩
        case measure => simp [intOf]
      · have hq := list_ne he
        have HE : Hid (nm m ≠ t) := he
        clear he
        go_wp2
        go_round
        case rel => exact ⟨m, by omega, rfl, Seen.miss HS.out HE.out⟩
        case measure => simp [intOf]
    | zero =>
      have np := neq_ptr_same
      rcases Seen.found HS.out HF.out with ⟨rfl, rfl⟩ | ⟨i, hi, rfl, rfl⟩
      · clear HS HF np
        go_wp2
        go_loopw [14] (fun iv wr => ∃ k : Nat, k ≤ n ∧ iv = .int .i64 k ∧ ∃ m, wr = w'.drewN m) (fun iv _ => n - (intOf iv).toNat)
        case atStart => exact ⟨0, by omega, rfl, 0, rfl⟩
        case round =>
          obtain ⟨k, hk, rfl, m, rfl⟩ := hrel
          by_cases hlt : k < n
          · have d1 := HN1.out k hlt
            have d2 := HN2.out k hlt
            have d3 := HV1.out k hlt
            have d4 := HV2.out k hlt
            have hv := neq_val_same st bv sv k
            obtain ⟨tv, xv, ev⟩ : ∃ tv xv, val st bv sv k = .iface tv xv := by unfold val; split <;> exact ⟨_, _, rfl⟩
            rw [ev] at d3 d4 hv
            clear ev
            have hlt' : (k : Int) < n := by omega
            have hbd : k ≤ 1048576 := by omega
            clear hn hlt
            go_wp2
            go_quiet (fail)
            go_wp2
            go_roundw
            case rel => exact ⟨k + 1, by omega, by go_num, _, rfl⟩
            case measure => simp [intOf]; omega
          · obtain rfl : k = n := by omega
            go_wp2
            go_ret
            exact ⟨rfl, below_drewN B3 _⟩
      · have hi' : (i : Int) < n := by omega
        have hi0 : decide ((i : Int) < 0) = false := by simp
        have np' := np ⟨w.heap.size, i * 4, none⟩ w'
        clear HS HF np
        go_wp2
        go_loopw [14] (fun iv wr => ∃ k : Nat, k ≤ n ∧ iv = .int .i64 k ∧ ∃ m, wr = w'.drewN m) (fun iv _ => n - (intOf iv).toNat)
        case atStart => exact ⟨0, by omega, rfl, 0, rfl⟩
        case round =>
          obtain ⟨k, hk, rfl, m, rfl⟩ := hrel
          by_cases hlt : k < n
          · have d1 := HN1.out k hlt
            have d2 := HN2.out k hlt
            have d3 := HV1.out k hlt
            have d4 := HV2.out k hlt
            have hv := neq_val_same st bv sv k
            obtain ⟨tv, xv, ev⟩ : ∃ tv xv, val st bv sv k = .iface tv xv := by unfold val; split <;> exact ⟨_, _, rfl⟩
            rw [ev] at d3 d4 hv
            clear ev
            have hlt' : (k : Int) < n := by omega
            have hbd : k ≤ 1048576 := by omega
            clear hn hlt
            go_wp2
            go_quiet (fail)
            go_wp2
            go_roundw
            case rel => exact ⟨k + 1, by omega, by go_num, _, rfl⟩
            case measure => simp [intOf]; omega
          · obtain rfl : k = n := by omega
            go_wp2
            go_ret
            exact ⟨rfl, below_drewN B3 _⟩
end Go.Proofs.Ybulkdtjo
