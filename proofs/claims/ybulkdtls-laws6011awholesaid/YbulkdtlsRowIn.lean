import Derived.Test.YbulkdtlsRange
import Derived.OpenShut
import Derived.ChangeOld
import Derived.Below
namespace Go.Proofs.Ybulkdtls
open Go.WideShapes Go.RowKit

theorem lt_of_cell {w : World} {a : Addr} {v : Value} (h : w.cell? a = some v) : a.block < w.heap.size := by
  rcases Nat.lt_or_ge a.block w.heap.size with h' | h'
  · exact h'
  · simp [World.cell?, Array.getElem?_eq_none h'] at h

/-- A row of integers that came in, as the walks of this seat take it. -/
theorem row_in {w : World} {a : Option Addr} {len cap : Nat} {zs : List Int}
    (h : (a = none ∧ len = 0 ∧ cap = 0 ∧ zs = []) ∨
      ∃ x, a = some x ∧ len ≤ cap ∧ cap ≤ maxLen ∧ zs.length = cap ∧ (∀ i, i < zs.length → w.cell? (x.add i) = some (.int .i64 (zs.getD i 0))) ∧ ∀ n ∈ zs, (Lit.int .i64 n).wf = true) :
    len ≤ maxLen ∧ ∃ (b off : Nat) (f : Nat → Int), (0 < len → a = some ⟨b, off, none⟩) ∧ (0 < len → b < w.heap.size) ∧
      (∀ j, j < len → w.cell? ⟨b, off + j, none⟩ = some (.int .i64 (f j))) ∧ ∀ j, -9223372036854775808 ≤ f j ∧ f j ≤ 9223372036854775807 := by
  rcases h with ⟨rfl, rfl, rfl, rfl⟩ | ⟨x, rfl, hl, hm, hz, hc, hw⟩
  · exact ⟨by simp [maxLen], 0, 0, fun _ => 0, by omega, by omega, by omega, by simp⟩
  · obtain ⟨bb, off, spot⟩ := x
    refine ⟨by omega, bb, off, fun j => zs.getD j 0, fun hp => ?_, fun hp => ?_, fun j hj => ?_, fun j => ?_⟩
    · have hs : spot = none := by simpa [Addr.add] using World.cell?_spot (hc 0 (by omega))
      rw [hs]
    · have hs : spot = none := by simpa [Addr.add] using World.cell?_spot (hc 0 (by omega))
      have h0 := hc 0 (by omega)
      subst hs
      exact lt_of_cell h0
    · have hs : spot = none := by simpa [Addr.add] using World.cell?_spot (hc 0 (by omega))
      subst hs
      have h1 := hc j (by omega)
      rwa [add_plain] at h1
    · rcases Nat.lt_or_ge j zs.length with h | h
      · have h1 := hw (zs.getD j 0) (by simp [List.getD, h])
        simp [Lit.wf, IntKind.min, IntKind.max, IntKind.signed, IntKind.bits] at h1
        simp only [List.getD_eq_getElem?_getD]
        omega
      · simp [List.getD, h]
end Go.Proofs.Ybulkdtls
