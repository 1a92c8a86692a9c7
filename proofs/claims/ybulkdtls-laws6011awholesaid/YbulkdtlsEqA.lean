import Derived.Test.YbulkdtlsPred
import Derived.Deep.QuietTactic
import Derived.BigQuiet
import Derived.Laws.Rows
namespace Go.Proofs.Ybulkdtls
open Go.RowKit Go.WideShapes

set_option maxRecDepth 100000 in
set_option maxHeartbeats 1000000 in
/-- The test of two slices that hold the same. -/
theorem eq_A (w : World) (n : Nat) (a b : Option Addr) (c d ga oa gb ob : Nat) (f : Nat → Int) (hn : n ≤ 1048576) (ha : 0 < n → a = some ⟨ga, oa, none⟩) (hb : 0 < n → b = some ⟨gb, ob, none⟩)
    (ca : ∀ j, j < n → w.cell? ⟨ga, oa + j, none⟩ = some (.int .i64 (f j))) (cb : ∀ j, j < n → w.cell? ⟨gb, ob + j, none⟩ = some (.int .i64 (f j))) :
    Calls Yba.prog 10 #[.slice a n c, .slice b n d] w fun e w' => e = .returned (.bool true) ∧ ∃ q, w' = w.drewN q := by
  have HA := (show Hid _ from ha)
  have HB := (show Hid _ from hb)
  have CA := (show Hid _ from ca)
  have CB := (show Hid _ from cb)
  clear ha hb ca cb
  go_enter Yba.func10, Yba.ntmps10
  go_wp2
  go_loopw [5] (fun iv wr => ∃ j : Nat, j ≤ n ∧ iv = .int .i64 j ∧ ∃ q, wr = w.drewN q) (fun iv _ => n - (intOf iv).toNat)
  case atStart => exact ⟨0, by omega, rfl, 0, rfl⟩
  case round =>
    obtain ⟨j, hj, rfl, q, rfl⟩ := hrel
    by_cases hjl : j < n
    · have g1 := CA.out j hjl
      have g2 := CB.out j hjl
      have hj' : (j : Int) < n := by omega
      obtain rfl := HA.out (by omega)
      obtain rfl := HB.out (by omega)
      go_wp2
      go_quiet (fail)
      go_wp2
      go_roundw
      case rel => exact ⟨j + 1, by omega, by go_num, _, rfl⟩
      case measure => simp [intOf]; omega
    · have hje : ¬ (j : Int) < n := by omega
      go_wp2
      go_ret
      exact ⟨rfl, _, rfl⟩
end Go.Proofs.Ybulkdtls
