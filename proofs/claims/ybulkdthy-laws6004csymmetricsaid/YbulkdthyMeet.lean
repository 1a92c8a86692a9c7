import Derived.Test.YbulkdthyRows
import Derived.WalkKit
import Derived.WalkSpells
import Derived.WalkLawsBesides
import Derived.Deep.QuietTactic
import Derived.BigQuiet
namespace Go.Proofs.Ybulkdthy
open Go.RowKit

def okAt (bl bh ol oh : Nat → Int) (j : Nat) : Bool := decide (bl j < oh j) && decide (ol j < bh j)
def meetTo (bl bh ol oh : Nat → Int) (n : Nat) : Bool := (List.range n).all (okAt bl bh ol oh)

theorem meetTo_succ (bl bh ol oh : Nat → Int) (n : Nat) : meetTo bl bh ol oh (n + 1) = (meetTo bl bh ol oh n && okAt bl bh ol oh n) := by
  simp [meetTo, List.range_succ]

theorem meetTo_false {bl bh ol oh : Nat → Int} {n k : Nat} (hk : k < n) (h : okAt bl bh ol oh k = false) : meetTo bl bh ol oh n = false := by
  simp only [meetTo, List.all_eq_false, List.mem_range]
  exact ⟨k, hk, by simp [h]⟩

set_option maxHeartbeats 400000 in
theorem meet_any (gb go : Nat) (bl bh ol oh : Nat → Int) (w : World)
    (c1 : ∀ j, j < 11 → w.cell? ⟨gb, j * 2, none⟩ = some (.int .u64 (bl j))) (c2 : ∀ j, j < 11 → w.cell? ⟨gb, j * 2 + 1, none⟩ = some (.int .u64 (bh j)))
    (c3 : ∀ j, j < 11 → w.cell? ⟨go, j * 2, none⟩ = some (.int .u64 (ol j))) (c4 : ∀ j, j < 11 → w.cell? ⟨go, j * 2 + 1, none⟩ = some (.int .u64 (oh j))) :
    Calls Yba.prog 6 #[.pointer (some ⟨gb, 0, none⟩), .pointer (some ⟨go, 0, none⟩)] w fun e w' => e = .returned (.bool (meetTo bl bh ol oh 11)) ∧ ∃ n, w' = w.drewN n := by
  go_enter Yba.func6, Yba.ntmps6
  go_wp2
  go_loopw [6] (fun i wr => ∃ k : Nat, k ≤ 11 ∧ i = .int .i64 k ∧ meetTo bl bh ol oh k = true ∧ ∃ n, wr = w.drewN n) (fun i _ => 11 - (intOf i).toNat)
  case atStart => exact ⟨0, by omega, rfl, rfl, 0, rfl⟩
  case round =>
    obtain ⟨k, hk, rfl, hm, n, rfl⟩ := hrel
    by_cases hlt : k < 11
    · have HM : Hid (meetTo bl bh ol oh k = true) := hm
      clear hm
      have d1 := c1 k hlt
      have d2 := c2 k hlt
      have d3 := c3 k hlt
      have d4 := c4 k hlt
      clear c1 c2 c3 c4
      have hlt' : (k : Int) < 11 := by omega
      by_cases t1 : oh k ≤ bl k
      · have hf : meetTo bl bh ol oh 11 = false := meetTo_false hlt (by simp [okAt]; omega)
        have HF : Hid (meetTo bl bh ol oh 11 = false) := hf
        clear hf
        go_wp2
        go_quiet (fail)
        go_wp2
        go_ret
        exact ⟨by rw [HF.out]; rfl, _, World.drewN_drewN _ _ _⟩
      · have t1' : decide (oh k ≤ bl k) = false := by simpa using t1
        by_cases t2 : bh k ≤ ol k
        · have hf : meetTo bl bh ol oh 11 = false := meetTo_false hlt (by simp [okAt]; omega)
          have HF : Hid (meetTo bl bh ol oh 11 = false) := hf
          clear hf
          go_wp2
          go_quiet (fail)
          go_wp2
          go_ret
          exact ⟨by rw [HF.out]; rfl, _, World.drewN_drewN _ _ _⟩
        · have hf : meetTo bl bh ol oh (k + 1) = true := by rw [meetTo_succ, HM.out]; simp [okAt]; omega
          have HF : Hid (meetTo bl bh ol oh (k + 1) = true) := hf
          clear hf
          have t2' : decide (bh k ≤ ol k) = false := by simpa using t2
          go_wp2
          go_quiet (fail)
          go_wp2
          go_roundw
          case rel => exact ⟨k + 1, by omega, by go_num, HF.out, _, rfl⟩
          case measure => simp [intOf]; omega
    · obtain rfl : k = 11 := by omega
      have HM : Hid (meetTo bl bh ol oh 11 = true) := hm
      clear hm
      go_wp2
      go_ret
      exact ⟨by rw [HM.out]; rfl, _, rfl⟩
end Go.Proofs.Ybulkdthy
