import Derived.Test.YbulkdtlsPred
namespace Go.Proofs.Ybulkdtls
open Go.RowKit

theorem tmod_pos_le (x m : Int) (hx : 0 ≤ x) (hm : 1 ≤ m) : 0 ≤ x.tmod m ∧ x.tmod m ≤ x := by
  obtain ⟨a, rfl⟩ := Int.eq_ofNat_of_zero_le hx
  obtain ⟨k, rfl⟩ := Int.eq_ofNat_of_zero_le (by omega : 0 ≤ m)
  rw [Int.tmod_eq_emod_of_nonneg hx]
  have h := Nat.mod_le a k
  refine ⟨Int.emod_nonneg _ (by omega), ?_⟩
  have e : (a : Int) % (k : Int) = ((a % k : Nat) : Int) := by simp
  rw [e]
  omega
theorem tmod_neg_le (x m : Int) (hx : x ≤ 0) (hm : 1 ≤ m) : x ≤ x.tmod m ∧ x.tmod m ≤ 0 := by
  have h := tmod_pos_le (-x) m (by omega) hm
  rw [Int.neg_tmod] at h
  omega

theorem wrap_mod (x m : Int) (hm : 1 ≤ m) (hm' : m ≤ 7) (h1 : -9223372036854775808 ≤ x) (h2 : x ≤ 9223372036854775807) : wrap64 (x - wrap64 (x.tdiv m * m)) = x.tmod m := by
  have e := Int.tdiv_mul_add_tmod x m
  have b := tmod_bd x m hm
  have r : -9223372036854775808 ≤ x.tdiv m * m ∧ x.tdiv m * m ≤ 9223372036854775807 := by
    rcases Int.le_total 0 x with hx | hx
    · have := tmod_pos_le x m hx hm; omega
    · have := tmod_neg_le x m hx hm; omega
  rw [Go.IntWalk.wrap64_in (x.tdiv m * m) r]
  rw [show x - x.tdiv m * m = x.tmod m by omega]
  exact Go.IntWalk.wrap64_in _ (by omega)

theorem emod_two (t m : Int) (h1 : -m < t) (h2 : t < m) : t % m = if 0 ≤ t then t else t + m := by
  split
  · exact Int.emod_eq_of_lt (by omega) h2
  · rw [show t % m = (t + m) % m by simp, Int.emod_eq_of_lt (by omega) (by omega)]

theorem pz_no {m r x : Int} (M1 : 1 ≤ m) (R1 : 0 ≤ r) (R2 : r < m) (h : pz m r x = false) : (x.tmod m == r) = false ∧ (x.tmod m + m == r) = false := by
  have b := tmod_bd x m M1
  unfold pz at h
  rw [emod_two _ _ b.1 b.2] at h
  simp at h ⊢
  split at h <;> omega
theorem pz_yes {m r x : Int} (M1 : 1 ≤ m) (h : pz m r x = true) : (x.tmod m == r) = true ∨ ((x.tmod m == r) = false ∧ (x.tmod m + m == r) = true) := by
  have b := tmod_bd x m M1
  unfold pz at h
  rw [emod_two _ _ b.1 b.2] at h
  simp at h ⊢
  split at h <;> omega
end Go.Proofs.Ybulkdtls
