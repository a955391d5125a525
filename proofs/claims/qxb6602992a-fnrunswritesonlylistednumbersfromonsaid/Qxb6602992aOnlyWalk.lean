/-
  The walk of FnRunsWritesOnlyListedNumbersFromOn.
-/
import Derived.Test.Qxb6602992aRunsLaw
import Derived.Deep.QuietTactic
import Derived.BigQuiet
namespace Go.Proofs.Qxb6602992a
open Go.RowKit

set_option maxHeartbeats 400000 in
theorem bytes19_yes (ao : Option Addr) (len cap : Nat) (x : Int) (w : World) (hl : len ≤ 1048576) :
    Calls Try.prog 19 #[.slice ao len cap, .int .u64 x] w fun e w' => e = .returned (.bool true) ∧ w = w' := by
  go_enter Try.func19, Try.ntmps19
  go_wp2
  go_ret
  exact ⟨rfl, rfl⟩

set_option maxHeartbeats 400000 in
theorem bytes19_no (ao : Option Addr) (len cap : Nat) (x : Int) (w : World) (hl : ¬ len ≤ 1048576) :
    Calls Try.prog 19 #[.slice ao len cap, .int .u64 x] w fun e w' => e = .returned (.bool false) ∧ w = w' := by
  go_enter Try.func19, Try.ntmps19
  go_wp2
  go_ret
  exact ⟨rfl, rfl⟩

set_option maxHeartbeats 2000000 in
theorem only_walk (ao : Option Addr) (len cap : Nat) (zs : List Int) (frm : Int) (w : World) (hlen : zs.length = len) (h : Rd w ao zs) (hwf : Wf zs) (hnil : ao = none → len = 0 ∧ cap = 0) (hmax : len ≤ 9223372036854775807) :
    Calls Try.prog 5 #[.slice ao len cap, .int .u64 frm] w fun e w' => e = .returned (.bool true) ∧ Below w.heap.size w w' := by
  have hn := fun wx a n c => Lib.run_eql_slice_nil (P := Try.prog) wx 22 23 a n c 0 0 Try.underlying22
  by_cases hbig : len ≤ 1048576
  · by_cases hbig2 : len ≤ 131072
    · go_enter Try.func5, Try.ntmps5
      go_wp2_with fail
      refine (bytes19_yes _ _ _ _ _ hbig).mono ?_
      rintro e w' ⟨rfl, rfl⟩
      go_wp2_with fail
      refine (clone_any ao len cap zs _ hlen hbig h hnil).mono ?_
      rintro e w1 ⟨ao1, cap1, rfl, h1, hb1⟩
      go_wp2_with fail
      refine (zzruns_any ao1 len cap1 zs frm _ hlen hbig h1 hwf).mono ?_
      rintro e w2 ⟨ao2, n2, cap2, rfl, hn2, h2, hN, hb2⟩
      have hB2 : Below w.heap.size w w2 := hb1.trans (hb2.mono hb1.size)
      replace h1 := h1.below hb2
      obtain ⟨I1, I2, I3⟩ := runsF_law frm zs
      have HF := runsF_none (frm := frm) (zs := zs)
      have HS := fun z r => runsF_some (frm := frm) (z := z) (zs := zs) (r := r)
      generalize runsF frm [] zs = out at hn2 h2 hN I1 I2 I3 HF HS
      rw [hn2] at I1 I2
      clear h hnil hb1 hb2
      have i1 : ((n2 : Int) % 2) = 0 := by omega
      go_wp2
      go_loop [6] (fun i => ∃ k : Nat, k ≤ len ∧ i = .int .i64 k ∧ Hid (firstFrom frm (zs.drop k) = firstFrom frm zs)) (fun i => len - (intOf i).toNat)
      case atStart => exact ⟨0, Nat.zero_le _, rfl, rfl⟩
      case round =>
        obtain ⟨k, hk, rfl, hR⟩ := hrel
        by_cases hlt : k < len
        · obtain ⟨b, off, z, rfl, hb, hc, hd⟩ := h1.at (i := k) (by omega)
          by_cases hf : z < frm
          · go_wp2
            go_round
            case rel => exact ⟨k + 1, by omega, by go_num, (firstFrom_skip hd hf).symm.trans hR.out⟩
            case measure => simp [intOf]; omega
          · have hS := HS _ _ (hR.out.symm.trans (firstFrom_hit hd hf))
            have hn0 : 0 < out.length := by cases out with | nil => simp at hS | cons a t => simp
            obtain ⟨b2, off2, z2, rfl, hbb2, hc2, hd2⟩ := h2.at (i := 0) hn0
            have hzz : z2 = z := by have := hd2.out; rw [List.drop_zero] at this; rw [this] at hS; simpa using hS
            subst hzz
            have g1 : decide ((n2 : Int) = 0) = false := by simp; omega
            have g2 : ((n2 : Int) == 0) = false := by simp; omega
            have g3 : (0 : Int) < (n2 : Int) := by omega
            have g4 : (k : Int) < (len : Int) := by omega
            have g5 : 0 < n2 := by omega
            clear HS HF hS
            simp only [Nat.add_zero] at hc2
            go_wp2
            go_quiet (fail)
            go_wp2
            go_loop [7] (fun i => ∃ j : Nat, j ≤ n2 ∧ i = .int .i64 j) (fun i => n2 - (intOf i).toNat)
            case atStart => exact ⟨0, Nat.zero_le _, rfl⟩
            case round =>
              obtain ⟨j, hj, rfl⟩ := hrel
              by_cases hjl : j < n2
              · obtain ⟨z3, hc3, hd3⟩ := h2.cell (i := j) (by omega)
                obtain ⟨hz3, hm3⟩ := I3 z3 (List.mem_of_mem_drop (i := j) (by rw [hd3.out]; simp))
                have hL : lst z3 zs = true := (lst_mem _ _).2 hm3
                go_wp2_with (go_at_call 20; refine (listed_any _ len cap1 zs z3 _ hlen hbig (h1.drewN _)).mono ?_; rintro e w' ⟨rfl, rfl⟩)
                go_round
                case rel => exact ⟨j + 1, by omega, by go_num⟩
                case measure => simp [intOf]; omega
              · go_wp2
                go_ret
                exact ⟨rfl, below_drewN hB2 _⟩
        · have hE : out = [] := HF ((hR.out.symm.trans (firstFrom_end (by omega))))
          have hN2 : ao2.isNone = true := by rw [hN, hE]; rfl
          clear HS HF
          go_wp2
          go_ret
          exact ⟨rfl, hB2⟩
    · go_enter Try.func5, Try.ntmps5
      go_wp2_with fail
      refine (bytes19_yes _ _ _ _ _ hbig).mono ?_
      rintro e w' ⟨rfl, rfl⟩
      go_wp2
      go_ret
      exact ⟨rfl, Below.refl _ _⟩
  · go_enter Try.func5, Try.ntmps5
    go_wp2_with fail
    refine (bytes19_no _ _ _ _ _ hbig).mono ?_
    rintro e w' ⟨rfl, rfl⟩
    go_wp2
    go_ret
    exact ⟨rfl, Below.refl _ _⟩
end Go.Proofs.Qxb6602992a
