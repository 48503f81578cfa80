/-
  From what the row tells of a slice to what the walks ask.
-/
import Derived.Test.Qxb6632587aCalls
import Derived.OpenShut
namespace Go.Proofs.Qxb6632587a
open Go.RowKit

/-- A slice of int64 that came in, as the kit's frame tells of it, holds some list of numbers. -/
theorem rung_of {w : World} {a : Option Addr} {len cap : Nat} {zs : List Int}
    (h : (a = none ∧ len = 0 ∧ cap = 0 ∧ zs = []) ∨ ∃ x, a = some x ∧ len ≤ cap ∧ cap ≤ maxLen ∧ zs.length = cap ∧ (∀ i, i < zs.length → w.cell? (x.add i) = some (.int .i64 (zs.getD i 0))) ∧ ∀ n ∈ zs, (Lit.int .i64 n).wf = true) :
    ∃ xs : List Int, xs.length = len ∧ Rung w a xs ∧ (a = none → xs = []) := by
  rcases h with ⟨_, rfl, _, _⟩ | ⟨x, rfl, hl, _, hz, hc, _⟩
  · exact ⟨[], rfl, .inl rfl, fun _ => rfl⟩
  · have hlen : (zs.take len).length = len := by rw [List.length_take]; omega
    refine ⟨zs.take len, hlen, ?_, fun h => by cases h⟩
    by_cases h0 : len = 0
    · left; rw [h0]; rfl
    · obtain ⟨b, off, rfl, hcell⟩ := ints_at hc (by omega)
      refine .inr ⟨b, off, rfl, ?_, fun i hi => ?_⟩
      · have := World.block_lt_of_cell? w _ (hcell 0 (by omega))
        exact this
      · rw [hcell i (by omega)]
        congr 2
        simp only [List.getD, List.getElem?_take]
        rw [if_pos (by omega)]
end Go.Proofs.Qxb6632587a
