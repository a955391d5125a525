/-
  From an argument as the row reads it to the walk's words: a slice of strings.
-/
import Derived.Test.Qxb6003384aSl
import Derived.OpenShut
import Derived.SliceStrings
namespace Go.Proofs.Qxb6003384a
open Go.RowKit

/-- What the walk is told of a slice of strings that came in: it is nil; or it leads to a row of cells, the strings 'zs' (the first 'len' are its elements), each of a length that can be. -/
def IsRow (w : World) (a : Option Addr) (len cap : Nat) (zs : List ByteArray) : Prop :=
  (a = none ∧ len = 0 ∧ cap = 0 ∧ zs = []) ∨
  ∃ x, a = some x ∧ len ≤ zs.length ∧ len ≤ maxLen ∧ (∀ i, i < zs.length → w.cell? (x.add i) = some (.string (zs.getD i ByteArray.empty))) ∧ ∀ s ∈ zs, s.size ≤ maxLen

theorem row_rs {w : World} {a : Option Addr} {len cap : Nat} {zs : List ByteArray} (h : IsRow w a len cap zs) :
    Rs w a (zs.take len) ∧ (∀ s ∈ zs.take len, s.size ≤ 9223372036854775807) ∧ (zs.take len).length = len ∧ (a = none → len = 0 ∧ cap = 0) ∧ len ≤ 9223372036854775807 := by
  rcases h with ⟨rfl, rfl, rfl, rfl⟩ | ⟨x, rfl, hl, hm, hc, hw⟩
  · exact ⟨Rs.nil _ _, fun z hz => by simp at hz, rfl, fun _ => ⟨rfl, rfl⟩, by omega⟩
  · unfold maxLen at hm
    refine ⟨?_, fun z hz => ?_, by simp; omega, fun h => (by cases h), by omega⟩
    · intro i hi
      have hi' : i < zs.length := by simp at hi; omega
      have hil : i < len := by simp at hi; omega
      obtain ⟨b, off, spot⟩ := x
      have hspot : spot = none := by simpa [Addr.add] using World.cell?_spot (hc 0 (by omega))
      subst hspot
      have hcell : w.cell? ⟨b, off + i, none⟩ = some (.string (zs.getD i ByteArray.empty)) := by rw [← WideShapes.add_plain]; exact hc i hi'
      refine ⟨b, off, rfl, World.block_lt_of_cell? w _ hcell, ?_⟩
      rw [show (zs.take len).getD i ByteArray.empty = zs.getD i ByteArray.empty from by simp [hil]]
      exact hcell
    · have := hw z (List.mem_of_mem_take hz)
      unfold maxLen at this
      omega
end Go.Proofs.Qxb6003384a
