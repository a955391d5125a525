/-
  'inRuns' and ZZInRuns: what they compute, and the walks.
-/
import Derived.Test.Qxb6602992aSl
namespace Go.Proofs.Qxb6602992a
open Go.RowKit

/-- x lies within one of the pairs. -/
def inr (x : Int) : List Int → Bool
  | a :: b :: r => if a ≤ x ∧ x ≤ b then true else inr x r
  | _ => false

theorem inr_hit {x a b : Int} {l r s : List Int} (e : Hid (l = a :: r)) (e' : Hid (r = b :: s)) (h1 : a ≤ x) (h2 : x ≤ b) : inr x l = true := by
  rw [e.out, e'.out, inr, if_pos ⟨h1, h2⟩]
theorem inr_miss {x a b : Int} {l r s : List Int} (e : Hid (l = a :: r)) (e' : Hid (r = b :: s)) (h : ¬ (a ≤ x ∧ x ≤ b)) : inr x l = inr x s := by
  rw [e.out, e'.out, inr, if_neg h]
theorem inr_end {x : Int} {zs : List Int} {k : Nat} (hk : zs.length ≤ k + 1) : inr x (zs.drop k) = false := by
  have : (zs.drop k).length ≤ 1 := by simp; omega
  match h : zs.drop k with
  | [] => rfl
  | [_] => rfl
  | _ :: _ :: _ => rw [h] at this; simp at this

set_option maxHeartbeats 400000 in
theorem inruns_any (ao : Option Addr) (len cap : Nat) (zs : List Int) (x : Int) (w : World) (hlen : zs.length = len) (hl : len ≤ 1048576) (h : Rd w ao zs) :
    Calls Try.prog 41 #[.slice ao len cap, .int .u64 x] w fun e w' => e = .returned (.bool (inr x zs)) ∧ w = w' := by
  go_enter Try.func41, Try.ntmps41
  go_wp2
  go_loop [5] (fun i => ∃ k : Nat, k ≤ len + 1 ∧ i = .int .i64 k ∧ Hid (inr x (zs.drop k) = inr x zs)) (fun i => len + 1 - (intOf i).toNat)
  case atStart => exact ⟨0, Nat.zero_le _, rfl, rfl⟩
  case round =>
    obtain ⟨k, hk, rfl, hR⟩ := hrel
    by_cases hlt : k + 1 < len
    · obtain ⟨b, off, z, rfl, hb, hc, hd⟩ := h.at (i := k) (by omega)
      obtain ⟨z', hc', hd'⟩ := h.cell (i := k + 1) (by omega)
      by_cases h1 : z ≤ x
      · by_cases h2 : x ≤ z'
        · go_wp2
          go_ret
          exact ⟨ret_bool ((inr_hit hd hd' h1 h2).symm.trans hR.out), rfl⟩
        · go_wp2
          go_round
          case rel => exact ⟨k + 2, by omega, by go_num, (inr_miss hd hd' (fun h => h2 h.2)).symm.trans hR.out⟩
          case measure => simp [intOf]; omega
      · go_wp2
        go_round
        case rel => exact ⟨k + 2, by omega, by go_num, (inr_miss hd hd' (fun h => h1 h.1)).symm.trans hR.out⟩
        case measure => simp [intOf]; omega
    · go_wp2
      go_ret
      exact ⟨ret_bool ((inr_end (by omega)).symm.trans hR.out), rfl⟩

set_option maxHeartbeats 400000 in
theorem zzinruns_any (ao : Option Addr) (len cap : Nat) (zs : List Int) (x : Int) (w : World) (hlen : zs.length = len) (hl : len ≤ 1048576) (h : Rd w ao zs) :
    Calls Try.prog 38 #[.slice ao len cap, .int .u64 x] w fun e w' => e = .returned (.bool (inr x zs)) ∧ w = w' := by
  go_enter Try.func38, Try.ntmps38
  go_wp2_with (go_at_call 41; refine (inruns_any ao len cap zs x _ hlen hl h).mono ?_; rintro e w' ⟨rfl, rfl⟩)
  go_ret
  exact ⟨rfl, rfl⟩
end Go.Proofs.Qxb6602992a
