/-
  The walks of b1Has, b1ReadBack and FnRunsReadBackAsTheNumbersFromOn.
-/
import Derived.Test.Qxb6602992aBackLaw
namespace Go.Proofs.Qxb6602992a
open Go.RowKit

theorem pairwise_getD {zs : List Int} (h : zs.Pairwise (· < ·)) {i j : Nat} (hij : i < j) (hj : j < zs.length) : zs.getD i 0 < zs.getD j 0 := by
  rw [List.getD_eq_getElem?_getD, List.getD_eq_getElem?_getD, List.getElem?_eq_getElem hj, List.getElem?_eq_getElem (by omega)]
  exact List.pairwise_iff_getElem.1 h i j (by omega) hj hij

/-- The binary search's state. -/
def HasInv (zs : List Int) (x : Int) (lo hi : Nat) : Prop := (∀ i, i < lo → zs.getD i 0 < x) ∧ (∀ i, hi ≤ i → i < zs.length → x ≤ zs.getD i 0)

theorem HasInv.right {zs : List Int} {x z : Int} {lo hi m : Nat} (hp : zs.Pairwise (· < ·)) (h : HasInv zs x lo hi) (hm : m < zs.length) (hz : Hid (z = zs.getD m 0)) (hlt : z < x) : HasInv zs x (m + 1) hi := by
  refine ⟨fun i hi => ?_, h.2⟩
  have := hz.out
  by_cases e : i = m
  · subst e; omega
  · have := pairwise_getD hp (show i < m by omega) hm; omega
theorem HasInv.left {zs : List Int} {x z : Int} {lo hi m : Nat} (hp : zs.Pairwise (· < ·)) (h : HasInv zs x lo hi) (hz : Hid (z = zs.getD m 0)) (hge : ¬ z < x) : HasInv zs x lo m := by
  refine ⟨h.1, fun i hmi hil => ?_⟩
  have := hz.out
  by_cases e : i = m
  · subst e; omega
  · have := pairwise_getD hp (show m < i by omega) hil; omega
theorem HasInv.found {zs : List Int} {x z : Int} {lo : Nat} (h : HasInv zs x lo lo) (hp : zs.Pairwise (· < ·)) (hl : lo < zs.length) (hz : Hid (z = zs.getD lo 0)) : (z == x) = lst x zs := by
  have hz' := hz.out
  rw [Bool.eq_iff_iff, beq_iff_eq, lst_mem]
  have hg : zs.getD lo 0 = zs[lo] := by rw [List.getD_eq_getElem?_getD, List.getElem?_eq_getElem hl]; rfl
  constructor
  · intro e; rw [← e, hz', hg]; exact List.getElem_mem hl
  · intro hx
    obtain ⟨i, hi, e⟩ := List.getElem_of_mem hx
    have hgi : zs.getD i 0 = x := by rw [List.getD_eq_getElem?_getD, List.getElem?_eq_getElem hi]; exact e
    have h1 : lo ≤ i := by
      rcases Nat.lt_or_ge i lo with hlt | hge
      · have := h.1 i hlt; omega
      · exact hge
    have h2 := h.2 lo (Nat.le_refl _) hl
    by_cases e : i = lo
    · subst e; omega
    · have := pairwise_getD hp (show lo < i by omega) hi; omega
theorem HasInv.none {zs : List Int} {x : Int} {lo : Nat} (h : HasInv zs x lo lo) (hl : ¬ lo < zs.length) : false = lst x zs := by
  symm
  rw [Bool.eq_false_iff]
  intro hx
  obtain ⟨i, hi, e⟩ := List.getElem_of_mem ((lst_mem _ _).1 hx)
  have hgi : zs.getD i 0 = x := by rw [List.getD_eq_getElem?_getD, List.getElem?_eq_getElem hi]; exact e
  have := h.1 i (by omega)
  omega

theorem Rd.getD {w : World} {ao : Option Addr} {zs : List Int} (h : Rd w ao zs) {i : Nat} (hi : i < zs.length) :
    ∃ b off z, ao = some ⟨b, off, none⟩ ∧ w.cell? ⟨b, off + i, none⟩ = some (.int .u64 z) ∧ Hid (z = zs.getD i 0) := by
  obtain ⟨b, off, h1, h2, h3⟩ := h i hi
  exact ⟨b, off, _, h1, h3, rfl⟩

set_option maxHeartbeats 400000 in
theorem has_any (ao : Option Addr) (len cap : Nat) (zs : List Int) (x : Int) (w : World) (hlen : zs.length = len) (hl : len ≤ 1048576) (h : Rd w ao zs) (hp : zs.Pairwise (· < ·)) :
    Calls Try.prog 37 #[.slice ao len cap, .int .u64 x] w fun e w' => e = .returned (.bool (lst x zs)) ∧ w = w' := by
  go_enter Try.func37, Try.ntmps37
  go_wp2
  go_loop [5, 6] (fun l u => ∃ lo hi : Nat, lo ≤ hi ∧ hi ≤ len ∧ l = .int .i64 lo ∧ u = .int .i64 hi ∧ Hid (HasInv zs x lo hi)) (fun l u => (intOf u).toNat - (intOf l).toNat)
  case atStart => exact ⟨0, len, by omega, by omega, rfl, rfl, fun i hi => by omega, fun i h1 h2 => by omega⟩
  case round =>
    obtain ⟨lo, hi, h1, h2, rfl, rfl, hI⟩ := hrel
    by_cases hlt : lo < hi
    · obtain ⟨b, off, z, rfl, hc, hz⟩ := h.getD (i := lo + (hi - lo) / 2) (by omega)
      by_cases ht : z < x
      · have R := HasInv.right hp hI.out (by omega) hz ht
        go_wp2
        go_round
        case rel => exact ⟨lo + (hi - lo) / 2 + 1, hi, by omega, by omega, by go_num, rfl, R⟩
        case measure => simp [intOf]; omega
      · have R := HasInv.left hp hI.out hz ht
        go_wp2
        go_round
        case rel => exact ⟨lo, lo + (hi - lo) / 2, by omega, by omega, rfl, by go_num, R⟩
        case measure => simp [intOf]; omega
    · obtain rfl : lo = hi := by omega
      by_cases hll : lo < len
      · obtain ⟨b, off, z, rfl, hc, hz⟩ := h.getD (i := lo) (by omega)
        have R : Hid ((z == x) = lst x zs) := hI.out.found hp (by omega) hz
        go_wp2
        go_ret
        exact ⟨ret_bool R.out, rfl⟩
      · have R : Hid (false = lst x zs) := hI.out.none (by omega)
        go_wp2
        go_ret
        exact ⟨ret_bool R.out, rfl⟩

set_option maxHeartbeats 1000000 in
/-- b1ReadBack, where the law holds at x. -/
theorem readback_any (ao : Option Addr) (n cap : Nat) (out : List Int) (ao' : Option Addr) (len cap' : Nat) (zs : List Int) (frm : Int) (tr : Bool) (last x : Int) (w : World) (hn : out.length = n) (hlen : zs.length = len) (hnl : n ≤ 1048576) (hl : len ≤ 1048576)
    (h : Rd w ao out) (h' : Rd w ao' zs) (hp : zs.Pairwise (· < ·)) (hlaw : Hid (inr x out = (decide (frm ≤ x) && lst x zs && (!tr || decide (x ≤ last))))) :
    Calls Try.prog 18 #[.slice ao n cap, .slice ao' len cap', .int .u64 frm, .bool tr, .int .u64 last, .int .u64 x] w fun e w' => e = .returned (.bool true) ∧ w = w' := by
  by_cases h1 : frm ≤ x
  · cases h2 : lst x zs
    · have R : inr x out = false := by rw [hlaw.out, h2]; simp
      go_enter Try.func18, Try.ntmps18
      go_wp2_with (first | (go_at_call 37; refine (has_any ao' len cap' zs x _ hlen hl h' hp).mono ?_; rintro e w' ⟨rfl, rfl⟩) | (go_at_call 38; refine (zzinruns_any ao n cap out x _ hn hnl h).mono ?_; rintro e w' ⟨rfl, rfl⟩))
      go_ret
      exact ⟨rfl, rfl⟩
    · cases tr
      · have R : inr x out = true := by rw [hlaw.out, h2]; simp [h1]
        go_enter Try.func18, Try.ntmps18
        go_wp2_with (first | (go_at_call 37; refine (has_any ao' len cap' zs x _ hlen hl h' hp).mono ?_; rintro e w' ⟨rfl, rfl⟩) | (go_at_call 38; refine (zzinruns_any ao n cap out x _ hn hnl h).mono ?_; rintro e w' ⟨rfl, rfl⟩))
        go_ret
        exact ⟨rfl, rfl⟩
      · by_cases h3 : x ≤ last
        · have R : inr x out = true := by rw [hlaw.out, h2]; simp [h1, h3]
          go_enter Try.func18, Try.ntmps18
          go_wp2_with (first | (go_at_call 37; refine (has_any ao' len cap' zs x _ hlen hl h' hp).mono ?_; rintro e w' ⟨rfl, rfl⟩) | (go_at_call 38; refine (zzinruns_any ao n cap out x _ hn hnl h).mono ?_; rintro e w' ⟨rfl, rfl⟩))
          go_ret
          exact ⟨rfl, rfl⟩
        · have R : inr x out = false := by rw [hlaw.out, h2]; simp [h3]
          have hd3 : decide (x ≤ last) = false := by simpa using h3
          go_enter Try.func18, Try.ntmps18
          go_wp2_with (first | (go_at_call 37; refine (has_any ao' len cap' zs x _ hlen hl h' hp).mono ?_; rintro e w' ⟨rfl, rfl⟩) | (go_at_call 38; refine (zzinruns_any ao n cap out x _ hn hnl h).mono ?_; rintro e w' ⟨rfl, rfl⟩))
          go_ret
          exact ⟨rfl, rfl⟩
  · have R : inr x out = false := by rw [hlaw.out]; simp [h1]
    go_enter Try.func18, Try.ntmps18
    go_wp2_with (go_at_call 38; refine (zzinruns_any ao n cap out x _ hn hnl h).mono ?_; rintro e w' ⟨rfl, rfl⟩)
    go_ret
    exact ⟨rfl, rfl⟩

set_option maxHeartbeats 400000 in
theorem bytes17_yes (ao : Option Addr) (len cap : Nat) (x : Int) (w : World) (hl : len ≤ 1048576) :
    Calls Try.prog 17 #[.slice ao len cap, .int .u64 x] w fun e w' => e = .returned (.bool true) ∧ w = w' := by
  go_enter Try.func17, Try.ntmps17
  go_wp2
  go_ret
  exact ⟨rfl, rfl⟩

set_option maxHeartbeats 400000 in
theorem bytes17_no (ao : Option Addr) (len cap : Nat) (x : Int) (w : World) (hl : ¬ len ≤ 1048576) :
    Calls Try.prog 17 #[.slice ao len cap, .int .u64 x] w fun e w' => e = .returned (.bool false) ∧ w = w' := by
  go_enter Try.func17, Try.ntmps17
  go_wp2
  go_ret
  exact ⟨rfl, rfl⟩

/-- The law at every x, in the walk's words. -/
theorem back_at {frm : Int} {zs : List Int} (hinc : incr zs = true) (hw : Wf zs) {tr : Bool} {last : Int} (htr : tr = decide ((runsF frm [] zs).length = 512)) (hlast : tr = true → last = lastOf (runsF frm [] zs)) (x : Int) :
    inr x (runsF frm [] zs) = (decide (frm ≤ x) && lst x zs && (!tr || decide (x ≤ last))) := by
  rw [Bool.eq_iff_iff, read_back hinc hw x]
  simp only [Bool.and_eq_true, decide_eq_true_eq, lst_mem, Bool.or_eq_true, Bool.not_eq_true']
  cases tr
  · have h5 : ¬ (runsF frm [] zs).length = 512 := by simpa using htr.symm
    simp [h5]
  · have h5 : (runsF frm [] zs).length = 512 := by simpa using htr.symm
    simp [h5, hlast rfl]

set_option maxHeartbeats 4000000 in
set_option maxRecDepth 1000000 in
theorem back_walk (ao : Option Addr) (len cap : Nat) (zs : List Int) (frm : Int) (w : World) (hlen : zs.length = len) (h : Rd w ao zs) (hwf : Wf zs) (hnil : ao = none → len = 0 ∧ cap = 0) (hmax : len ≤ 9223372036854775807) :
    Calls Try.prog 4 #[.slice ao len cap, .int .u64 frm] w fun e w' => e = .returned (.bool true) ∧ Below w.heap.size w w' := by
  by_cases hbig : len ≤ 1048576
  · by_cases hbig2 : len ≤ 131072
    · by_cases hinc : incr zs = true
      · have hp := incr_pairwise zs hinc
        obtain ⟨I1, I2, I3⟩ := runsF_law frm zs
        have hlaw := fun (tr : Bool) (last : Int) htr hlast x => back_at (frm := frm) hinc hwf (tr := tr) (last := last) htr hlast x
        go_enter Try.func4, Try.ntmps4
        go_wp2_with fail
        refine (bytes17_yes _ _ _ _ _ hbig).mono ?_
        rintro e w' ⟨rfl, rfl⟩
        go_wp2_with fail
        refine (incr_any ao len cap zs _ hlen hbig h).mono ?_
        rintro e w' ⟨rfl, nd, rfl⟩
        rw [hinc]
        have hB0 : Below w.heap.size w (w.drewN nd) := below_drewN (Below.refl _ _) nd
        go_wp2_with fail
        refine (clone_any ao len cap zs _ hlen hbig (h.drewN nd) hnil).mono ?_
        rintro e w1 ⟨ao1, cap1, rfl, h1, hb1⟩
        go_wp2_with fail
        refine (zzruns_any ao1 len cap1 zs frm _ hlen hbig h1 hwf).mono ?_
        rintro e w2 ⟨ao2, n2, cap2, rfl, hn2, h2, hN, hb2⟩
        have hB2 : Below w.heap.size w w2 := (hB0.trans (hb1.mono hB0.size)).trans (hb2.mono (Nat.le_trans hB0.size hb1.size))
        replace h1 := h1.below hb2
        clear h hnil hb1 hb2 hB0 hinc
        generalize runsF frm [] zs = out at hn2 h2 hN I1 I2 I3 hlaw
        rw [hn2] at I1 I2
        have i1 : ((n2 : Int) % 2) = 0 := by omega
        have i2 : (n2 : Int) ≤ 512 := by omega
        have fin : ∀ (tr : Bool) (last : Int), tr = decide (out.length = 512) → (tr = true → last = lastOf out) → ∀ x wz, w2 = wz → Calls Try.prog 18 #[.slice ao2 n2 cap2, .slice ao1 len cap1, .int .u64 frm, .bool tr, .int .u64 last, .int .u64 x] wz fun e w' => e = .returned (.bool true) ∧ wz = w' := by
          rintro tr last htr hlast x wz rfl
          exact readback_any ao2 n2 cap2 out ao1 len cap1 zs frm tr last x _ hn2 hlen (by omega) hbig h2 h1 hp (hlaw tr last htr hlast x)
        clear hlaw
        by_cases h5 : n2 = 512
        · obtain ⟨b2, off2, z2, rfl, hbb2, hc2, hd2⟩ := h2.at (i := n2 - 1) (by omega)
          have hz2 : z2 = lastOf out := by
            have := hd2.out
            rw [drop_getD (by omega)] at this
            rw [lastOf, hn2]
            simp at this
            rw [List.getD_eq_getElem?_getD]
            exact this.symm
          have F : Hid (∀ x wz, w2 = wz → Calls Try.prog 18 #[.slice (some ⟨b2, off2, none⟩) n2 cap2, .slice ao1 len cap1, .int .u64 frm, .bool true, .int .u64 z2, .int .u64 x] wz fun e w' => e = .returned (.bool true) ∧ wz = w') := fin true z2 (by rw [hn2, h5]; rfl) (fun _ => hz2)
          clear fin hz2
          subst h5
          go_wp2_with (go_at_call 18; refine (F.out _ _ rfl).mono ?_; rintro e w' ⟨rfl, rfl⟩)
          go_loop [8] (fun i => ∃ k : Nat, k ≤ len ∧ i = .int .i64 k) (fun i => len - (intOf i).toNat)
          case atStart => exact ⟨0, Nat.zero_le _, rfl⟩
          case round =>
            obtain ⟨k, hk, rfl⟩ := hrel
            by_cases hlt : k < len
            · obtain ⟨b, off, z, rfl, hb, hc, hd⟩ := h1.at (i := k) (by omega)
              go_wp2_with (go_at_call 18; refine (F.out _ _ rfl).mono ?_; rintro e w' ⟨rfl, rfl⟩)
              go_round
              case rel => exact ⟨k + 1, by omega, by go_num⟩
              case measure => simp [intOf]; omega
            · go_wp2
              go_ret
              exact ⟨rfl, hB2⟩
        · have F : Hid (∀ x wz, w2 = wz → Calls Try.prog 18 #[.slice ao2 n2 cap2, .slice ao1 len cap1, .int .u64 frm, .bool false, .int .u64 0, .int .u64 x] wz fun e w' => e = .returned (.bool true) ∧ wz = w') := fin false 0 (by rw [hn2]; simp [h5]) (fun h => by cases h)
          clear fin
          go_wp2_with (go_at_call 18; refine (F.out _ _ rfl).mono ?_; rintro e w' ⟨rfl, rfl⟩)
          go_loop [8] (fun i => ∃ k : Nat, k ≤ len ∧ i = .int .i64 k) (fun i => len - (intOf i).toNat)
          case atStart => exact ⟨0, Nat.zero_le _, rfl⟩
          case round =>
            obtain ⟨k, hk, rfl⟩ := hrel
            by_cases hlt : k < len
            · obtain ⟨b, off, z, rfl, hb, hc, hd⟩ := h1.at (i := k) (by omega)
              go_wp2_with (go_at_call 18; refine (F.out _ _ rfl).mono ?_; rintro e w' ⟨rfl, rfl⟩)
              go_round
              case rel => exact ⟨k + 1, by omega, by go_num⟩
              case measure => simp [intOf]; omega
            · go_wp2
              go_ret
              exact ⟨rfl, hB2⟩
      · go_enter Try.func4, Try.ntmps4
        go_wp2_with fail
        refine (bytes17_yes _ _ _ _ _ hbig).mono ?_
        rintro e w' ⟨rfl, rfl⟩
        go_wp2_with fail
        refine (incr_any ao len cap zs _ hlen hbig h).mono ?_
        rintro e w' ⟨rfl, nd, rfl⟩
        rw [Bool.eq_false_iff.2 hinc]
        go_wp2
        go_ret
        exact ⟨rfl, below_drewN (Below.refl _ _) nd⟩
    · go_enter Try.func4, Try.ntmps4
      go_wp2_with fail
      refine (bytes17_yes _ _ _ _ _ hbig).mono ?_
      rintro e w' ⟨rfl, rfl⟩
      go_wp2
      go_ret
      exact ⟨rfl, Below.refl _ _⟩
  · go_enter Try.func4, Try.ntmps4
    go_wp2_with fail
    refine (bytes17_no _ _ _ _ _ hbig).mono ?_
    rintro e w' ⟨rfl, rfl⟩
    go_wp2
    go_ret
    exact ⟨rfl, Below.refl _ _⟩
end Go.Proofs.Qxb6602992a
