/-
  Plain laws for FnRunsAreMaximalConsecutiveBlocks: no Go in sight.
-/
import Derived.Test.Qxb6602992aRunsLaw
namespace Go.Proofs.Qxb6602992a
open Go.RowKit

theorem incr_pairwise : ∀ (l : List Int), incr l = true → l.Pairwise (· < ·) := by
  intro l
  induction l with
  | nil => intro _; exact List.Pairwise.nil
  | cons a r ih =>
    intro h
    cases r with
    | nil => exact List.pairwise_singleton _ _
    | cons b s =>
      rw [incr] at h
      split at h
      · cases h
      · rename_i hba
        have hp := ih h
        refine List.Pairwise.cons (fun x hx => ?_) hp
        rcases List.mem_cons.1 hx with rfl | hx
        · omega
        · have := List.rel_of_pairwise_cons hp hx; omega

/-- Behind the first number that reaches 'frm' all do. -/
theorem incr_from {zs r : List Int} {k : Nat} {z frm : Int} (h : incr zs = true) (e : Hid (zs.drop k = z :: r)) (hz : ¬ z < frm) : ∀ x ∈ zs.drop k, ¬ x < frm := by
  have hp := (incr_pairwise zs h).sublist (List.drop_sublist k zs)
  rw [e.out] at hp ⊢
  intro x hx
  rcases List.mem_cons.1 hx with rfl | hx
  · exact hz
  · have := List.rel_of_pairwise_cons hp hx; omega

theorem lastOf_two (W : List Int) (z y : Int) : lastOf (W ++ [z, y]) = y := by
  simp [lastOf]
theorem set_two (W : List Int) (z y x : Int) : (W ++ [z, y]).set ((W ++ [z, y]).length - 1) x = W ++ [z, x] := by
  simp

/-- The outer loop's state: what is written, what is to come. -/
def Blk (frm : Int) (zs W rest : List Int) : Prop :=
  runsF frm W rest = runsF frm [] zs ∧ (∀ z r, rest = z :: r → ¬ (0 < W.length ∧ up (lastOf W) = z)) ∧ (∀ x ∈ rest, ¬ x < frm) ∧ W.length % 2 = 0 ∧ W.length ≤ 512

theorem Blk.start {frm : Int} {zs rest : List Int} (h1 : firstFrom frm zs = rest) (h2 : ∀ x ∈ rest, ¬ x < frm) : Blk frm zs [] rest := by
  refine ⟨by rw [runsF_first frm zs, h1], fun z r _ h => by simp at h, h2, rfl, by simp⟩

theorem Blk.ended {frm : Int} {zs W : List Int} (h : Blk frm zs W []) : W = runsF frm [] zs := h.1

theorem Blk.full {frm z : Int} {zs W rest r : List Int} (h : Blk frm zs W rest) (e : Hid (rest = z :: r)) (hf : ¬ W.length < 512) : W = runsF frm [] zs := by
  obtain ⟨h1, h2, h3, h4, h5⟩ := h
  rw [← h1, runs_stop e (h3 z (by rw [e.out]; simp)) (h2 z r e.out) (by omega)]

/-- The inner loop's state: the block that begins at z has come to y. -/
def Inn (frm : Int) (zs W : List Int) (z y : Int) (rest : List Int) : Prop :=
  runsF frm (W ++ [z, y]) rest = runsF frm [] zs ∧ (∀ x ∈ rest, ¬ x < frm) ∧ W.length % 2 = 0 ∧ W.length < 512

theorem Blk.into {frm z : Int} {zs W rest r : List Int} (h : Blk frm zs W rest) (e : Hid (rest = z :: r)) (hf : W.length < 512) : Inn frm zs W z z r := by
  obtain ⟨h1, h2, h3, h4, h5⟩ := h
  refine ⟨?_, fun x hx => h3 x (by rw [e.out]; simp [hx]), h4, hf⟩
  rw [← h1, runs_app e (h3 z (by rw [e.out]; simp)) (h2 z r e.out) (by omega)]

theorem Inn.step {frm z y x : Int} {zs W rest r : List Int} (h : Inn frm zs W z y rest) (e : Hid (rest = x :: r)) (hu : up y = x) : Inn frm zs W z x r := by
  obtain ⟨h1, h2, h3, h4⟩ := h
  refine ⟨?_, fun t ht => h2 t (by rw [e.out]; simp [ht]), h3, h4⟩
  rw [← h1, runs_last e (h2 x (by rw [e.out]; simp)) (by simp) (by rw [lastOf_two]; exact hu), set_two]

theorem Inn.out {frm z y : Int} {zs W rest : List Int} (h : Inn frm zs W z y rest) (hu : ∀ x r, rest = x :: r → up y ≠ x) : Blk frm zs (W ++ [z, y]) rest := by
  obtain ⟨h1, h2, h3, h4⟩ := h
  refine ⟨h1, fun x r e h => ?_, h2, by simp; omega, by simp; omega⟩
  rw [lastOf_two] at h
  exact hu x r e h.2

theorem wrapU (n : Int) : IntKind.u64.wrap n = n % 18446744073709551616 := by simp [IntKind.wrap, IntKind.bits, IntKind.signed]

/-- The keys tell a block: 'x - (j+1)' is the key of the block just where x is the next number. -/
theorem key_step {x y key : Int} {j : Nat} (hx : 0 ≤ x ∧ x ≤ 18446744073709551615) (hk : Hid (IntKind.u64.wrap (y - (j : Int)) = key)) :
    ((IntKind.u64.wrap (x - ((j : Int) + 1)) == key) = true ↔ up y = x) := by
  rw [← hk.out, beq_iff_eq]
  simp only [up, wrapU]
  omega
end Go.Proofs.Qxb6602992a
