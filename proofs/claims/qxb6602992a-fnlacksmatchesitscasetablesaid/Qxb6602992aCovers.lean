/-
  b1Covers: it answers as inRuns does.
-/
import Derived.Test.Qxb6602992aRunsIn
namespace Go.Proofs.Qxb6602992a
open Go.RowKit

/-- What the count says so far, and what is to come. -/
def cov (x : Int) (bg en : Nat) (rest : List Int) : Bool := decide (en < bg) || inr x rest

theorem cov_skip {x a b : Int} {bg en : Nat} {l r s : List Int} (e : Hid (l = a :: r)) (e' : Hid (r = b :: s)) (h : b < a) : cov x bg en l = cov x bg en s := by
  rw [cov, cov, inr_miss e e' (by omega)]
theorem cov_both {x a b : Int} {bg en : Nat} {l r s : List Int} (e : Hid (l = a :: r)) (e' : Hid (r = b :: s)) (h : b < x) : cov x bg en l = cov x (bg + 1) (en + 1) s := by
  rw [cov, cov, inr_miss e e' (by omega)]; simp
theorem cov_hit {x a b : Int} {bg en : Nat} {l r s : List Int} (e : Hid (l = a :: r)) (e' : Hid (r = b :: s)) (h1 : a ≤ x) (h2 : x ≤ b) (he : en ≤ bg) : cov x bg en l = cov x (bg + 1) en s := by
  rw [cov, cov, inr_hit e e' h1 h2]; simp; omega
theorem cov_none {x a b : Int} {bg en : Nat} {l r s : List Int} (e : Hid (l = a :: r)) (e' : Hid (r = b :: s)) (h1 : x < a) : cov x bg en l = cov x bg en s := by
  rw [cov, cov, inr_miss e e' (by omega)]
theorem cov_end {x : Int} {bg en : Nat} {zs : List Int} {k : Nat} (hk : zs.length ≤ k + 1) : cov x bg en (zs.drop k) = decide (en < bg) := by
  rw [cov, inr_end hk]; simp

set_option maxHeartbeats 400000 in
theorem covers_any (ao : Option Addr) (len cap : Nat) (zs : List Int) (x : Int) (w : World) (hlen : zs.length = len) (hl : len ≤ 1048576) (h : Rd w ao zs) :
    Calls Try.prog 24 #[.slice ao len cap, .int .u64 x] w fun e w' => e = .returned (.bool (inr x zs)) ∧ w = w' := by
  go_enter Try.func24, Try.ntmps24
  go_wp2
  go_loop [5, 6, 8] (fun b e i => ∃ k bg en : Nat, 2 * k ≤ len ∧ i = .int .i64 k ∧ b = .int .i64 bg ∧ e = .int .i64 en ∧ en ≤ bg ∧ bg ≤ k ∧ Hid (cov x bg en (zs.drop (2 * k)) = inr x zs)) (fun _ _ i => len - (intOf i).toNat)
  case atStart => exact ⟨0, 0, 0, by omega, rfl, rfl, rfl, by omega, by omega, by simp [Hid, cov]⟩
  case round =>
    obtain ⟨k, bg, en, hk, rfl, rfl, rfl, heb, hbk, hR⟩ := hrel
    by_cases hlt : 2 * k + 1 < len
    · obtain ⟨b, off, z, rfl, hb, hc, hd⟩ := h.at (i := 2 * k) (by omega)
      obtain ⟨z', hc', hd'⟩ := h.cell (i := 2 * k + 1) (by omega)
      by_cases g0 : z' < z
      · have R := (cov_skip (x := x) (bg := bg) (en := en) hd hd' g0).symm.trans hR.out
        go_wp2
        go_round
        case rel => exact ⟨k + 1, bg, en, by omega, by go_num, rfl, rfl, heb, by omega, R⟩
        case measure => simp [intOf]; omega
      · by_cases g1 : z ≤ x
        · by_cases g2 : z' < x
          · have R := (cov_both (x := x) (bg := bg) (en := en) hd hd' g2).symm.trans hR.out
            go_wp2
            go_round
            case rel => exact ⟨k + 1, bg + 1, en + 1, by omega, by go_num, by go_num, by go_num, by omega, by omega, R⟩
            case measure => simp [intOf]; omega
          · have R := (cov_hit (x := x) (bg := bg) (en := en) hd hd' g1 (by omega) heb).symm.trans hR.out
            go_wp2
            go_round
            case rel => exact ⟨k + 1, bg + 1, en, by omega, by go_num, by go_num, rfl, by omega, by omega, R⟩
            case measure => simp [intOf]; omega
        · have R := (cov_none (x := x) (bg := bg) (en := en) hd hd' (by omega)).symm.trans hR.out
          have g2 : ¬ z' < x := by omega
          go_wp2
          go_round
          case rel => exact ⟨k + 1, bg, en, by omega, by go_num, rfl, rfl, heb, by omega, R⟩
          case measure => simp [intOf]; omega
    · go_wp2
      go_ret
      exact ⟨ret_bool (by rw [← hR.out, cov_end (by omega)]), rfl⟩
end Go.Proofs.Qxb6602992a
