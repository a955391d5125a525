/-
  Plain laws for FnHeldMessagesKeepLastPutOfEachNumberInOrder: the last place of a number in a script.
-/
import Derived.Test.Qxb6602992aHeldFns
namespace Go.Proofs.Qxb6602992a
open Go.RowKit Go.Maps

/-- The last place of x among the first k. -/
def li (zs : List Int) : Nat → Int → Option Nat
  | 0, _ => none
  | k + 1, x => if zs.getD k 0 = x then some k else li zs k x
/-- How many different numbers are among the first k. -/
def cnt (zs : List Int) : Nat → Nat
  | 0 => 0
  | k + 1 => if (li zs k (zs.getD k 0)).isSome then cnt zs k else cnt zs k + 1

theorem li_spec (zs : List Int) : ∀ (k : Nat) (x : Int) (j : Nat), li zs k x = some j → j < k ∧ zs.getD j 0 = x := by
  intro k
  induction k with
  | zero => intro x j h; simp [li] at h
  | succ k ih =>
    intro x j h
    rw [li] at h
    split at h
    · cases h; exact ⟨by omega, by assumption⟩
    · have := ih x j h; exact ⟨by omega, this.2⟩

theorem cnt_le (zs : List Int) : ∀ k, cnt zs k ≤ k := by
  intro k
  induction k with
  | zero => simp [cnt]
  | succ k ih => rw [cnt]; split <;> omega

/-- The message that the law puts at place j. -/
def mkM (zs vs : List Int) (j : Nat) : Msg := ⟨⟨#[]⟩, ⟨#[]⟩, 0, zs.getD j 0, vs.getD j 0, j⟩

/-- What the held map knows after k puts. -/
structure LK (zs vs : List Int) (k : Nat) (D : DataW Msg) : Prop where
  has : ∀ x, Maps.has D (.int .u64 x) = (li zs k x).isSome
  at_ : ∀ x j, li zs k x = some j → D.atKey (.int .u64 x) (.held msgZ) = .held (mkM zs vs j)
  size : Maps.size D = cnt zs k
  tidy : Tidy D

theorem LK.start (zs vs : List Int) : LK zs vs 0 (.map []) := ⟨fun x => rfl, fun x j h => by simp [li] at h, rfl, tidy_empty⟩

theorem LK.step {zs vs : List Int} {k : Nat} {D : DataW Msg} (h : LK zs vs k D) : LK zs vs (k + 1) (D.put (.int .u64 (zs.getD k 0)) (.held (mkM zs vs k))) := by
  refine ⟨fun x => ?_, fun x j hj => ?_, ?_, h.tidy.put (k := .int .u64 (zs.getD k 0)) trivial _⟩
  · rw [li]
    by_cases e : zs.getD k 0 = x
    · rw [if_pos e, ← e, has_put_same (k := .int .u64 (zs.getD k 0)) h.tidy.isMap trivial]; rfl
    · rw [if_neg e, has_put_other (key_ne (fun h => e h.symm)), h.has]
  · rw [li] at hj
    by_cases e : zs.getD k 0 = x
    · rw [if_pos e] at hj
      cases hj
      rw [← e, atKey_put_same (k := .int .u64 (zs.getD k 0)) h.tidy.isMap trivial]
    · rw [if_neg e] at hj
      rw [atKey_put_other (key_ne (fun h => e h.symm))]
      exact h.at_ x j hj
  · rw [size_put h.tidy, cnt, h.has, h.size]

/-- What the law's own map knows after k rounds. -/
structure LI (zs : List Int) (k : Nat) (D : DataW Unit) : Prop where
  has : ∀ x, Maps.has D (.int .u64 x) = (li zs k x).isSome
  at_ : ∀ x j, li zs k x = some j → D.atKey (.int .u64 x) (.lit (.int .i64 0)) = .lit (.int .i64 j)
  size : Maps.size D = cnt zs k
  tidy : Tidy D

theorem LI.start (zs : List Int) : LI zs 0 (.map []) := ⟨fun x => rfl, fun x j h => by simp [li] at h, rfl, tidy_empty⟩

theorem LI.step {zs : List Int} {k : Nat} {D : DataW Unit} (h : LI zs k D) : LI zs (k + 1) (D.put (.int .u64 (zs.getD k 0)) (.lit (.int .i64 k))) := by
  refine ⟨fun x => ?_, fun x j hj => ?_, ?_, h.tidy.put (k := .int .u64 (zs.getD k 0)) trivial _⟩
  · rw [li]
    by_cases e : zs.getD k 0 = x
    · rw [if_pos e, ← e, has_put_same (k := .int .u64 (zs.getD k 0)) h.tidy.isMap trivial]; rfl
    · rw [if_neg e, has_put_other (key_ne (fun h => e h.symm)), h.has]
  · rw [li] at hj
    by_cases e : zs.getD k 0 = x
    · rw [if_pos e] at hj
      cases hj
      rw [← e, atKey_put_same (k := .int .u64 (zs.getD k 0)) h.tidy.isMap trivial]
    · rw [if_neg e] at hj
      rw [atKey_put_other (key_ne (fun h => e h.symm))]
      exact h.at_ x j hj
  · rw [size_put h.tidy, cnt, h.has, h.size]
end Go.Proofs.Qxb6602992a
