import Derived.Test.YbulkdtjoBuild
import Derived.Laws.Pointers
namespace Go.Proofs.Ybulkdtjo
open Go.RowKit

set_option maxHeartbeats 400000 in
theorem build_zero (a : Addr) (cap : Nat) (w : World) : Calls Yba.prog 4 #[.slice (some a) 0 cap] w fun e w' => e = .returned (.slice (some ⟨w.heap.size, 0, none⟩) 0 0) ∧ Below w.heap.size w w' := by
  obtain ⟨i0, hi, hz0, hz1, hz2⟩ := info_parts Yba.info33
  have hmk := run_make (P := Yba.prog) w 26 33 i0 _ Yba.underlying26 hi hz0 .i64 .i64 0 0 (by omega) (by omega) (by rw [hz2]; omega) (by omega)
  have hnil2 := Lib.run_eql_slice_nil (P := Yba.prog)
  clear hi hz0 hz1 hz2
  go_enter Yba.func4, Yba.ntmps4
  go_wp2
  refine wp_loop_rounds 1 ?_
  rw [rounds_succ]
  go_wp2
  go_ret
  exact ⟨rfl, (Below.refl _ _).alloc (Nat.le_refl _) _⟩

set_option maxHeartbeats 800000 in
theorem law_zero (a : Addr) (cap : Nat) (t : ByteArray) (up : Bool) (p : Int) (w : World) :
    Calls Yba.prog 3 #[.slice (some a) 0 cap, .string t, .bool up, .int .u32 p] w fun e w' => e = .returned (.bool true) ∧ Below w.heap.size w w' := by
  cases up
  all_goals
    go_enter Yba.func3, Yba.ntmps3
    go_wp2_with fail
    refine (build_zero a cap _).mono ?_
    rintro e w1 ⟨rfl, B1⟩
    have s1 := B1.size
    go_wp2_with fail
    refine (build_zero a cap _).mono ?_
    rintro e w2 ⟨rfl, B2⟩
    have B3 : Below w.heap.size w w2 := B1.trans (B2.mono s1)
    clear B1 B2
    go_wp2_with fail
    refine (find_any w.heap.size (fun _ => t) t 0 _ (by omega) (fun j h => absurd h (by omega))).mono ?_
    rintro e w' ⟨r, rfl, hf, rfl⟩
    obtain rfl : r = .pointer none := by
      rcases hf with ⟨h, _⟩ | ⟨i, h, _⟩
      · exact h
      · omega
    clear hf
    go_wp2
    refine wp_loop_rounds 1 ?_
    rw [rounds_succ]
    go_wp2
    refine wp_loop_rounds 1 ?_
    rw [rounds_succ]
    go_wp2
    go_ret
    exact ⟨rfl, B3⟩
end Go.Proofs.Ybulkdtjo
