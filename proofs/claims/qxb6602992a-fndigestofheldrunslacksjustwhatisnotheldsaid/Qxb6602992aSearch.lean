/-
  slices.BinarySearch at []uint64, with cmp.Less and the two isNaN.
-/
import Derived.Test.Qxb6602992aBackWalk
namespace Go.Proofs.Qxb6602992a
open Go.RowKit

set_option maxHeartbeats 400000 in
theorem isnan48 (x : Int) (w : World) : Calls Try.prog 48 #[.int .u64 x] w fun e w' => e = .returned (.bool false) ∧ w = w' := by
  go_enter Try.func48, Try.ntmps48
  go_wp2
  go_ret
  exact ⟨by simp, rfl⟩

set_option maxHeartbeats 400000 in
theorem isnan45 (x : Int) (w : World) : Calls Try.prog 45 #[.int .u64 x] w fun e w' => e = .returned (.bool false) ∧ w = w' := by
  go_enter Try.func45, Try.ntmps45
  go_wp2
  go_ret
  exact ⟨by simp, rfl⟩

set_option maxHeartbeats 400000 in
theorem less_any (x y : Int) (w : World) : Calls Try.prog 44 #[.int .u64 x, .int .u64 y] w fun e w' => e = .returned (.bool (decide (x < y))) ∧ w = w' := by
  go_enter Try.func44, Try.ntmps44
  go_wp2_with (go_at_call 48; refine (isnan48 _ _).mono ?_; rintro e w' ⟨rfl, rfl⟩)
  go_ret
  exact ⟨rfl, rfl⟩

/-- The search ended at i. -/
def Found (e : Ending) (i : Nat) : Prop := ∃ f : Bool, e = .returned (.tuple #[.int .i64 i, .bool f])

set_option maxHeartbeats 1000000 in
theorem bsearch_any (ao : Option Addr) (len cap : Nat) (zs : List Int) (x : Int) (w : World) (hlen : zs.length = len) (hl : len ≤ 1048576) (h : Rd w ao zs) (hp : zs.Pairwise (· < ·)) :
    Calls Try.prog 42 #[.slice ao len cap, .int .u64 x] w fun e w' => ∃ i : Nat, i ≤ len ∧ HasInv zs x i i ∧ w = w' ∧ Found e i := by
  go_enter Try.func42, Try.ntmps42
  go_wp2
  go_loop [7, 8] (fun l u => ∃ lo hi : Nat, lo ≤ hi ∧ hi ≤ len ∧ l = .int .i64 lo ∧ u = .int .i64 hi ∧ Hid (HasInv zs x lo hi)) (fun l u => (intOf u).toNat - (intOf l).toNat)
  case atStart => exact ⟨0, len, by omega, by omega, rfl, rfl, fun i hi => by omega, fun i h1 h2 => by omega⟩
  case round =>
    obtain ⟨lo, hi, h1, h2, rfl, rfl, hI⟩ := hrel
    by_cases hlt : lo < hi
    · obtain ⟨b, off, z, rfl, hc, hz⟩ := h.getD (i := (lo + hi) / 2) (by omega)
      by_cases ht : z < x
      · have R := HasInv.right hp hI.out (by omega) hz ht
        go_wp2_with (go_at_call 44; refine (less_any _ _ _).mono ?_; rintro e w' ⟨rfl, rfl⟩)
        go_round
        case rel => exact ⟨(lo + hi) / 2 + 1, hi, by omega, by omega, by go_num, rfl, R⟩
        case measure => simp [intOf]; omega
      · have R := HasInv.left hp hI.out hz ht
        go_wp2_with (go_at_call 44; refine (less_any _ _ _).mono ?_; rintro e w' ⟨rfl, rfl⟩)
        go_round
        case rel => exact ⟨lo, (lo + hi) / 2, by omega, by omega, rfl, by go_num, R⟩
        case measure => simp [intOf]; omega
    · obtain rfl : lo = hi := by omega
      by_cases hll : lo < len
      · obtain ⟨b, off, z, rfl, hc, hz⟩ := h.getD (i := lo) (by omega)
        go_wp2_with (go_at_call 45; refine (isnan45 _ _).mono ?_; rintro e w' ⟨rfl, rfl⟩)
        all_goals
          go_ret2
          exact ⟨lo, by omega, hI.out, rfl, _, rfl⟩
      · go_wp2
        go_ret2
        exact ⟨lo, by omega, hI.out, rfl, _, rfl⟩
end Go.Proofs.Qxb6602992a
