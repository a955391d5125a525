/-
  From an argument as the row reads it to the walk's words.
-/
import Derived.Test.Qxb6602992aSl
import Derived.OpenShut
namespace Go.Proofs.Qxb6602992a
open Go.RowKit

theorem row_rd {w : World} {a : Option Addr} {len cap : Nat} {zs : List Int}
    (h : (a = none ∧ len = 0 ∧ cap = 0 ∧ zs = []) ∨ ∃ x, a = some x ∧ len ≤ cap ∧ cap ≤ maxLen ∧ zs.length = cap ∧ (∀ i, i < zs.length → w.cell? (x.add i) = some (.int .u64 (zs.getD i 0))) ∧ ∀ n ∈ zs, (Lit.int .u64 n).wf = true) :
    Rd w a (zs.take len) ∧ Wf (zs.take len) ∧ (zs.take len).length = len ∧ (a = none → len = 0 ∧ cap = 0) ∧ len ≤ 9223372036854775807 := by
  rcases h with ⟨rfl, rfl, rfl, rfl⟩ | ⟨x, rfl, hl, hm, hz, hc, hw⟩
  · exact ⟨Rd.nil _ _, fun z hz => by simp at hz, rfl, fun _ => ⟨rfl, rfl⟩, by omega⟩
  · unfold maxLen at hm
    refine ⟨?_, fun z hz => ?_, by simp; omega, fun h => (by cases h), by omega⟩
    · intro i hi
      have hi' : i < zs.length := by simp at hi; omega
      have hil : i < len := by simp at hi; omega
      obtain ⟨b, off, spot⟩ := x
      have hspot : spot = none := by simpa [Addr.add] using World.cell?_spot (hc 0 (by omega))
      subst hspot
      have hcell : w.cell? ⟨b, off + i, none⟩ = some (.int .u64 (zs.getD i 0)) := by rw [← WideShapes.add_plain]; exact hc i hi'
      refine ⟨b, off, rfl, World.block_lt_of_cell? w _ hcell, ?_⟩
      rw [show (zs.take len).getD i 0 = zs.getD i 0 from by simp [hil]]
      exact hcell
    · have := bounds_u64 (hw z (List.mem_of_mem_take hz))
      omega
end Go.Proofs.Qxb6602992a
