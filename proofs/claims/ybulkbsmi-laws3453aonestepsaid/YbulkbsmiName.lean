/-
  Seat b3453a: the name of a chunk's j-th taker (for OneStep; YbulkbsmiOrder bears its own copy).
-/
import Derived.Test.YbulkbsmiState
namespace Go.Proofs.Ybulkbsmi
open Go.RowKit

theorem flatRow_get (nm : Nat → ByteArray) : ∀ n j, j < n → (flatRow nm n)[j * 7]? = some (.string (nm j)) ∧ (flatRow nm n).length = n * 7
  | 0, j, h => by omega
  | n + 1, j, h => by
    have hlen : ∀ m, (flatRow nm m).length = m * 7 := by
      intro m
      induction m with
      | zero => rfl
      | succ m ih => rw [flatRow_succ, List.length_append, ih]; simp [tk]; omega
    refine ⟨?_, hlen _⟩
    rw [flatRow_succ]
    by_cases e : j < n
    · rw [List.getElem?_append_left (by rw [hlen]; omega)]
      exact (flatRow_get nm n j e).1
    · have : j = n := by omega
      subst this
      rw [List.getElem?_append_right (by rw [hlen]; omega), hlen]
      simp [tk]

/-- The name of a chunk's j-th taker. -/
theorem name_cell {w : World} {base : Nat} {ch : Ch} (h : w.ownsRow base 35 7 (.slice (some ⟨ch.g, 0, none⟩) ch.len ch.cap) ch.len ch.row) (j : Nat) (hj : j < ch.len) : w.cell? ⟨ch.g, j * 7, none⟩ = some (.string (ch.nm j)) := by
  rw [h.cellAt (j * 7) (by omega)]
  exact (flatRow_get ch.nm ch.len j hj).1

end Go.Proofs.Ybulkbsmi
