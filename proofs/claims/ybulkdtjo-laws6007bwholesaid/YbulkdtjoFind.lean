import Derived.Test.YbulkdtjoRows
import Derived.WalkKit
import Derived.WalkSpells
import Derived.WalkLawsBesides
import Derived.Laws.Rows
namespace Go.Proofs.Ybulkdtjo
open Go.RowKit

/-- findOption's answer: the first of the n options at g whose name is t. -/
def Found (g : Nat) (nm : Nat → ByteArray) (t : ByteArray) (n : Nat) (r : Value) : Prop :=
  (r = .pointer none ∧ ∀ j, j < n → nm j ≠ t) ∨ ∃ i, i < n ∧ r = .pointer (some ⟨g, i * 4, none⟩) ∧ nm i = t ∧ ∀ j, j < i → nm j ≠ t

theorem list_ne {s t : ByteArray} (h : s ≠ t) : (s.toList == t.toList) = false := by
  rw [beq_eq_false_iff_ne]
  intro h'
  rw [ByteArray.toList_eq, ByteArray.toList_eq] at h'
  apply h
  obtain ⟨⟨x⟩⟩ := s
  obtain ⟨⟨y⟩⟩ := t
  simp at h'
  rw [h']
theorem list_eq {s t : ByteArray} (h : s = t) : (s.toList == t.toList) = true := by subst h; simp

set_option maxHeartbeats 400000 in
theorem find_any (g : Nat) (nm : Nat → ByteArray) (t : ByteArray) (n : Nat) (w : World) (hn : n ≤ 1048576)
    (c : ∀ j, j < n → w.cell? ⟨g, j * 4, none⟩ = some (.string (nm j))) :
    Calls Yba.prog 5 #[.slice (some ⟨g, 0, none⟩) n n, .string t] w fun e w' => ∃ r, e = .returned r ∧ Found g nm t n r ∧ w' = w := by
  go_enter Yba.func5, Yba.ntmps5
  go_wp2
  go_loop [8] (fun i => ∃ k : Nat, k ≤ n ∧ i = .int .i64 k ∧ ∀ j, j < k → nm j ≠ t) (fun i => n - (intOf i).toNat)
  case atStart => exact ⟨0, by omega, rfl, fun j h => absurd h (by omega)⟩
  case round =>
    obtain ⟨k, hk, rfl, hm⟩ := hrel
    have HM : Hid (∀ j, j < k → nm j ≠ t) := hm
    clear hm
    by_cases hlt : k < n
    · have d1 := c k hlt
      clear c
      have hlt' : (k : Int) < n := by omega
      by_cases he : nm k = t
      · have hq := list_eq he
        have HE : Hid (nm k = t) := he
        clear he
        go_wp2
        go_ret
        exact ⟨_, rfl, Or.inr ⟨k, hlt, rfl, HE.out, HM.out⟩, rfl⟩
      · have hq := list_ne he
        have HE : Hid (nm k ≠ t) := he
        clear he
        go_wp2
        go_round
        case rel => exact ⟨k + 1, by omega, by go_num, fun j hj => by
          rcases Nat.lt_or_ge j k with h | h
          · exact HM.out j h
          · obtain rfl : j = k := by omega
            exact HE.out⟩
        case measure => simp [intOf]; omega
    · obtain rfl : k = n := by omega
      clear c
      go_wp2
      go_ret
      exact ⟨_, rfl, Or.inl ⟨rfl, HM.out⟩, rfl⟩

theorem Found_nil (nm : Nat → ByteArray) (t : ByteArray) (g : Nat) : Found g nm t 0 (.pointer none) := Or.inl ⟨rfl, fun j h => absurd h (by omega)⟩

set_option maxHeartbeats 400000 in
theorem find_nil (t : ByteArray) (w : World) :
    Calls Yba.prog 5 #[.slice none 0 0, .string t] w fun e w' => e = .returned (.pointer none) ∧ w' = w := by
  go_enter Yba.func5, Yba.ntmps5
  go_wp2
  refine wp_loop_rounds 1 ?_
  rw [rounds_succ]
  go_wp2
  go_ret
  exact ⟨rfl, rfl⟩
end Go.Proofs.Ybulkdtjo
