/-
  Plain laws on 'runsF': no Go in sight.
-/
import Derived.Test.Qxb6602992aRuns
namespace Go.Proofs.Qxb6602992a
open Go.RowKit

/-- What holds of what has been written, round after round. -/
def RInv (frm : Int) (full out : List Int) : Prop := out.length % 2 = 0 ∧ out.length ≤ 512 ∧ ∀ o ∈ out, frm ≤ o ∧ o ∈ full

theorem runsF_inv (frm : Int) (full : List Int) : ∀ (rest out : List Int), (∀ z ∈ rest, z ∈ full) → RInv frm full out → RInv frm full (runsF frm out rest) := by
  intro rest
  induction rest with
  | nil => intro out _ h; exact h
  | cons z r ih =>
    intro out hm h
    obtain ⟨h1, h2, h3⟩ := h
    have hz : z ∈ full := hm z (by simp)
    have hr : ∀ y ∈ r, y ∈ full := fun y hy => hm y (by simp [hy])
    rw [runsF]
    split
    · exact ih out hr ⟨h1, h2, h3⟩
    · rename_i hf
      split
      · refine ih _ hr ⟨by simpa using h1, by simpa using h2, fun o ho => ?_⟩
        rcases List.mem_or_eq_of_mem_set ho with ho | ho
        · exact h3 o ho
        · subst ho; exact ⟨by omega, hz⟩
      · split
        · exact ⟨h1, h2, h3⟩
        · refine ih _ hr ⟨by simp; omega, by simp; omega, fun o ho => ?_⟩
          rcases List.mem_append.1 ho with ho | ho
          · exact h3 o ho
          · simp at ho; subst ho; exact ⟨by omega, hz⟩

theorem runsF_law (frm : Int) (zs : List Int) : RInv frm zs (runsF frm [] zs) :=
  runsF_inv frm zs zs [] (fun _ h => h) ⟨rfl, by simp, fun o ho => by simp at ho⟩

/-- The first number written stays. -/
theorem runsF_head (frm : Int) : ∀ (rest out : List Int), 2 ≤ out.length → (runsF frm out rest).head? = out.head? := by
  intro rest
  induction rest with
  | nil => intro out _; rfl
  | cons z r ih =>
    intro out h
    rw [runsF]
    split
    · exact ih out h
    · split
      · rw [ih _ (by simpa using h)]
        match out, h with
        | a :: b :: t, _ => rfl
      · split
        · rfl
        · rw [ih _ (by simp)]
          match out, h with
          | a :: b :: t, _ => rfl

/-- The numbers from the first on that reaches 'frm'. -/
def firstFrom (frm : Int) : List Int → List Int
  | [] => []
  | z :: r => if z < frm then firstFrom frm r else z :: r

theorem firstFrom_skip {frm z : Int} {l r : List Int} (e : Hid (l = z :: r)) (h : z < frm) : firstFrom frm l = firstFrom frm r := by rw [e.out, firstFrom, if_pos h]
theorem firstFrom_hit {frm z : Int} {l r : List Int} (e : Hid (l = z :: r)) (h : ¬ z < frm) : firstFrom frm l = z :: r := by rw [e.out, firstFrom, if_neg h]
theorem firstFrom_end {frm : Int} {zs : List Int} {k : Nat} (h : ¬ k < zs.length) : firstFrom frm (zs.drop k) = [] := by
  rw [List.drop_of_length_le (by omega)]; rfl

theorem runsF_first (frm : Int) (zs : List Int) : runsF frm [] zs = runsF frm [] (firstFrom frm zs) := by
  induction zs with
  | nil => rfl
  | cons z r ih =>
    rw [firstFrom]
    split
    · rename_i h; rw [runsF, if_pos h, ih]
    · rfl

theorem runsF_none {frm : Int} {zs : List Int} (h : firstFrom frm zs = []) : runsF frm [] zs = [] := by rw [runsF_first, h]; rfl

theorem firstFrom_ge {frm z : Int} {r : List Int} : ∀ {zs : List Int}, firstFrom frm zs = z :: r → ¬ z < frm := by
  intro zs
  induction zs with
  | nil => intro h; simp [firstFrom] at h
  | cons y t ih =>
    intro h
    rw [firstFrom] at h
    split at h
    · exact ih h
    · simp at h; rename_i h'; rw [← h.1]; exact h'

theorem runsF_some {frm z : Int} {zs r : List Int} (h : firstFrom frm zs = z :: r) : (runsF frm [] zs).head? = some z := by
  rw [runsF_first, h, runsF, if_neg (firstFrom_ge h), if_neg (by simp), if_neg (by simp), runsF_head _ _ _ (by simp)]
  rfl
end Go.Proofs.Qxb6602992a
