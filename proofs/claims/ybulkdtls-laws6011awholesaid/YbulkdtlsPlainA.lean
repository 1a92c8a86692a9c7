import Derived.Test.YbulkdtlsStateA
import Derived.Maps.Views
namespace Go.Proofs.Ybulkdtls
open Go.RowKit

/-- One element: the keys in the order of their first coming, and each key's fold. -/
def stepA (m : Int) (s : List Int × List Int) (x : Int) : List Int × List Int :=
  if kz m x ∈ s.1 then (s.1, s.2.set (s.1.idxOf (kz m x)) (fz (s.2.getD (s.1.idxOf (kz m x)) 0) x)) else (s.1 ++ [kz m x], s.2 ++ [fz 0 x])
def foldA (m : Int) (zs : Nat → Int) : Nat → List Int × List Int
  | 0 => ([], [])
  | k + 1 => stepA m (foldA m zs k) (zs k)

theorem foldA_len (m : Int) (zs : Nat → Int) : ∀ k, (foldA m zs k).1.length ≤ k ∧ (foldA m zs k).2.length = (foldA m zs k).1.length
  | 0 => by simp [foldA]
  | k + 1 => by
    obtain ⟨h1, h2⟩ := foldA_len m zs k
    unfold foldA stepA
    split
    · simp; omega
    · simp; omega
theorem foldA_pos (m : Int) (zs : Nat → Int) (k : Nat) : 0 < (foldA m zs (k + 1)).1.length := by
  unfold foldA stepA
  split
  · rename_i h; exact List.length_pos_of_mem h
  · simp

def Idx (D : DataW Unit) (ks : List Int) : Prop := ∀ k : Int, Maps.has D (.int .i64 k) = decide (k ∈ ks) ∧ (k ∈ ks → D.atKey (.int .i64 k) (.lit (.int .i64 0)) = .lit (.int .i64 (ks.idxOf k)))

theorem Idx.nil : Idx (.map []) [] := fun k => ⟨by simp [Maps.has], by simp⟩
theorem Idx.step {D : DataW Unit} {ks : List Int} (h : Idx D ks) (hD : Maps.IsMap D) {k : Int} (hk : k ∉ ks) : Idx (D.put (.int .i64 k) (.lit (.int .i64 ks.length))) (ks ++ [k]) := fun k' => by
  by_cases e : k' = k
  · subst e
    refine ⟨by rw [Maps.has_put_same hD (by trivial)]; simp, fun _ => ?_⟩
    rw [Maps.atKey_put_same hD (by trivial), List.idxOf_append, if_neg hk]
    simp
  · have hne : Lit.int .i64 k' ≠ Lit.int .i64 k := by intro e'; injection e' with _ e'; exact e e'
    refine ⟨by rw [Maps.has_put_other hne, (h k').1]; simp [e], fun hm => ?_⟩
    have hm' : k' ∈ ks := by simpa [e] using hm
    rw [Maps.atKey_put_other hne, (h k').2 hm', List.idxOf_append, if_pos hm']
end Go.Proofs.Ybulkdtls
