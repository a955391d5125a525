/-
  The walks of b1Equal and FnRunsAreMaximalConsecutiveBlocks.
-/
import Derived.Test.Qxb6602992aBlocksLaw
import Derived.Deep.QuietTactic
import Derived.BigQuiet
import Derived.Deep.RegionHeld3
import Derived.Deep.AppendLies
namespace Go.Proofs.Qxb6602992a
open Go.RowKit

set_option maxHeartbeats 400000 in
theorem bytes12_yes (ao : Option Addr) (len cap : Nat) (x : Int) (w : World) (hl : len ≤ 1048576) :
    Calls Try.prog 12 #[.slice ao len cap, .int .u64 x] w fun e w' => e = .returned (.bool true) ∧ w = w' := by
  go_enter Try.func12, Try.ntmps12
  go_wp2
  go_ret
  exact ⟨rfl, rfl⟩

set_option maxHeartbeats 400000 in
theorem bytes12_no (ao : Option Addr) (len cap : Nat) (x : Int) (w : World) (hl : ¬ len ≤ 1048576) :
    Calls Try.prog 12 #[.slice ao len cap, .int .u64 x] w fun e w' => e = .returned (.bool false) ∧ w = w' := by
  go_enter Try.func12, Try.ntmps12
  go_wp2
  go_ret
  exact ⟨rfl, rfl⟩

set_option maxHeartbeats 400000 in
/-- b1Equal, of two slices that read alike. -/
theorem equal_same (ao ao' : Option Addr) (len cap cap' : Nat) (zs : List Int) (w : World) (hlen : zs.length = len) (hl : len ≤ 1048576) (h : Rd w ao zs) (h' : Rd w ao' zs) :
    Calls Try.prog 16 #[.slice ao len cap, .slice ao' len cap'] w fun e w' => e = .returned (.bool true) ∧ ∃ n, w' = w.drewN n := by
  go_enter Try.func16, Try.ntmps16
  go_wp2
  go_loopw [5] (fun i wr => ∃ k : Nat, k ≤ len ∧ i = .int .i64 k ∧ ∃ n, wr = w.drewN n) (fun i _ => len - (intOf i).toNat)
  case atStart => exact ⟨0, Nat.zero_le _, rfl, 0, rfl⟩
  case round =>
    obtain ⟨k, hk, rfl, n, rfl⟩ := hrel
    by_cases hlt : k < len
    · obtain ⟨b, off, z, rfl, hb, hc, hd⟩ := h.at (i := k) (by omega)
      obtain ⟨b', off', z', rfl, hb', hc', hd'⟩ := h'.at (i := k) (by omega)
      have hzz : z' = z := by have := hd.out.symm.trans hd'.out; simpa using this.symm
      subst hzz
      go_wp2
      go_region
      go_wp2
      go_roundw
      case rel => exact ⟨k + 1, by omega, by go_num, _, rfl⟩
      case measure => simp [intOf]; omega
    · go_wp2
      go_ret
      exact ⟨rfl, n, rfl⟩

theorem none_iff {a : Option Addr} {W : List Int} {c : Nat} (h : Hid (a = none → W = [])) (h' : Hid (W = [] → Value.slice a W.length c = .slice none 0 0)) : a.isNone = decide (W = []) := by
  cases a with
  | none => simp [h.out rfl]
  | some x =>
    by_cases hW : W = []
    · have := h'.out hW; simp at this
    · simp [hW]

theorem key_next {x x' y : Int} {j i : Nat} (hk : Hid (IntKind.u64.wrap (x - (j : Int)) = IntKind.u64.wrap (y - (i : Int)))) (hu : up x = x') :
    Hid (IntKind.u64.wrap (x' - ((j + 1 : Nat) : Int)) = IntKind.u64.wrap (y - (i : Int))) := by
  have h := hk.out
  show _ = _
  rw [← h, ← hu]
  simp only [up, wrapU]
  omega

set_option maxHeartbeats 4000000 in
set_option maxRecDepth 1000000 in
theorem blocks_walk (ao : Option Addr) (len cap : Nat) (zs : List Int) (frm : Int) (w : World) (hlen : zs.length = len) (h : Rd w ao zs) (hwf : Wf zs) (hnil : ao = none → len = 0 ∧ cap = 0) (hmax : len ≤ 9223372036854775807) :
    Calls Try.prog 3 #[.slice ao len cap, .int .u64 frm] w fun e w' => e = .returned (.bool true) ∧ Below w.heap.size w w' := by
  have hn := fun wx a n c => Lib.run_eql_slice_nil (P := Try.prog) wx 22 23 a n c 0 0 Try.underlying22
  obtain ⟨i0, hi, hz0, hz1, hz2⟩ := info_parts Try.info23
  by_cases hbig : len ≤ 1048576
  · by_cases hbig2 : len ≤ 131072
    · by_cases hinc : incr zs = true
      · go_enter Try.func3, Try.ntmps3
        go_wp2_with fail
        refine (bytes12_yes _ _ _ _ _ hbig).mono ?_
        rintro e w' ⟨rfl, rfl⟩
        go_wp2_with fail
        refine (incr_any ao len cap zs _ hlen hbig h).mono ?_
        rintro e w' ⟨rfl, nd, rfl⟩
        rw [hinc]
        have hB0 : Below w.heap.size w (w.drewN nd) := below_drewN (Below.refl _ _) nd
        go_wp2_with fail
        refine (clone_any ao len cap zs _ hlen hbig (h.drewN nd) hnil).mono ?_
        rintro e w1 ⟨ao1, cap1, rfl, h1, hb1⟩
        go_wp2_with fail
        refine (zzruns_any ao1 len cap1 zs frm _ hlen hbig h1 hwf).mono ?_
        rintro e w2 ⟨ao2, n2, cap2, rfl, hn2, h2, hN, hb2⟩
        have hB2 : Below w.heap.size w w2 := (hB0.trans (hb1.mono hB0.size)).trans (hb2.mono (Nat.le_trans hB0.size hb1.size))
        replace h1 := h1.below hb2
        clear h hnil hb1 hb2 hB0
        go_wp2
        go_loop [6] (fun i => ∃ k : Nat, k ≤ len ∧ i = .int .i64 k ∧ Hid (firstFrom frm (zs.drop k) = firstFrom frm zs)) (fun i => len - (intOf i).toNat)
        case atStart => exact ⟨0, Nat.zero_le _, rfl, rfl⟩
        case round =>
          obtain ⟨k, hk, rfl, hR⟩ := hrel
          by_cases hlt : k < len
          · obtain ⟨b, off, z, rfl, hb, hc, hd⟩ := h1.at (i := k) (by omega)
            by_cases hf : z < frm
            · go_wp2
              go_round
              case rel => exact ⟨k + 1, by omega, by go_num, (firstFrom_skip hd hf).symm.trans hR.out⟩
              case measure => simp [intOf]; omega
            · have hBk : Blk frm zs [] (zs.drop k) := Blk.start (by rw [← hR.out, firstFrom_hit hd hf, hd.out]) (incr_from hinc hd hf)
              clear hinc hR hd
              go_wp2
              clear hc
              go_loopw [7, 8] (fun v si wr => ∃ (i : Nat) (W : List Int), i ≤ len ∧ si = .int .i64 i ∧ wr.ownsRow w2.heap.size 23 1 v W.length (W.map (Value.int .u64)) ∧ Hid (W = [] → v = .slice none 0 0) ∧ Hid (Blk frm zs W (zs.drop i)) ∧ W.length ≤ 512 ∧ Below w2.heap.size w2 wr) (fun _ si _ => len - (intOf si).toNat)
              case atStart => exact ⟨k, [], by omega, rfl, World.ownsRow_nil _ _ _ _, fun _ => rfl, hBk, by simp, Below.refl _ _⟩
              case round =>
                obtain ⟨i, W, hil, rfl, hown, hWn, hBlk, hW5, hbel⟩ := hrel
                have h1r := h1.below hbel
                obtain ⟨aoW, capW, rfl, hrdW, hneW⟩ := Rd.of_owns hown
                have HneW : Hid (aoW = none → W = []) := hneW
                clear hneW
                by_cases hic : i < len
                · obtain ⟨y, hcy, hdy⟩ := h1r.cell (i := i) (by omega)
                  have hyb := hwf.head hdy
                  by_cases h5 : W.length < 512
                  · have HIn : Hid (Inn frm zs W y y (zs.drop (i + 1))) := Blk.into hBlk.out hdy h5
                    go_wp2
                    go_loop [10] (fun sj => ∃ j : Nat, i ≤ j ∧ j < len ∧ sj = .int .i64 j ∧ ∃ x : Int, Hid (zs.drop j = x :: zs.drop (j + 1)) ∧ Hid (IntKind.u64.wrap (x - (j : Int)) = IntKind.u64.wrap (y - (i : Int))) ∧ Hid (Inn frm zs W y x (zs.drop (j + 1)))) (fun sj => len - (intOf sj).toNat)
                    case atStart => exact ⟨i, Nat.le_refl _, hic, rfl, y, hdy, rfl, HIn⟩
                    case round =>
                      clear HIn
                      obtain ⟨j, hij, hjl, rfl, x, hdx, hkey, HIn⟩ := hrel
                      have hcx : wr.cell? ⟨b, off + j, none⟩ = some (.int .u64 x) := by
                        obtain ⟨x2, hcx2, hdx2⟩ := h1r.cell (i := j) (by omega)
                        have := hdx.out.symm.trans hdx2.out
                        simp at this; rw [this]; exact hcx2
                      have hjI : (j : Int) < (len : Int) := by omega
                      have hiI : (i : Int) < (len : Int) := by omega
                      have hnb : some b ≠ (Value.slice aoW W.length capW).ownBlock := fun e => by have := hown.lt b e.symm; omega
                      have hbw : b < wr.heap.size := by have := hbel.size; omega
                      by_cases hj1 : j + 1 < len
                      · obtain ⟨x', hcx', hdx'⟩ := h1r.cell (i := j + 1) (by omega)
                        have hxb' := hwf.head hdx'
                        have hks := key_step hxb' hkey
                        by_cases hu : up x = x'
                        · have ht : (IntKind.u64.wrap (x' - ((j : Int) + 1)) == IntKind.u64.wrap (y - (i : Int))) = true := hks.2 hu
                          have HI' := Inn.step HIn.out hdx' hu
                          have Hk' := key_next hkey hu
                          clear hks hu
                          go_wp2
                          go_round
                          case rel => exact ⟨j + 1, by omega, by omega, by go_num, x', hdx', Hk', HI'⟩
                          case measure => simp [intOf]; omega
                        · have ht : (IntKind.u64.wrap (x' - ((j : Int) + 1)) == IntKind.u64.wrap (y - (i : Int))) = false := Bool.eq_false_iff.2 (fun h => hu (hks.1 h))
                          have HB' : Hid (Blk frm zs (W ++ [y, x]) (zs.drop (j + 1))) := Inn.out HIn.out (fun t r e => by rw [hdx'.out] at e; simp at e; rw [← e.1]; exact hu)
                          clear hks hu
                          go_wp2
                          go_region_held3 (fun w' => w'.cell? ⟨b, off + i, none⟩ = some (.int .u64 y) ∧ w'.cell? ⟨b, off + j, none⟩ = some (.int .u64 x)) (first | go_keep | (go_split_ands; refine ⟨?_, ?_⟩ <;> (rw [hgrow.cell_far _ (by simp; omega) hnb]; simp [*]))) ((refine step_append_lies _ (by rfl) _ _ _ (by rfl) w2.heap.size 23 i0 (.int .u64 0) 1 8 Try.underlying22 hi hz0 hz1 hz2 rfl (by omega) (.slice aoW W.length capW) W.length (W.map (Value.int .u64)) (by rfl) ((hown.alloc _).drew) ⟨wr.heap.size, 0, none⟩ 2 2 [.int .u64 y, .int .u64 x] (by rfl) (by rfl) (World.news_of_block (heap_alloc_new wr _)) (ints_oneCell _ [y, x]) (by omega) (by unfold maxLen; omega) (by omega) (by have := hbel.size; simp; omega) (wr.heap.size + 1) (by simp) ?_; intro g capg w1 hown1 hgrow hat hlt))
                          have hBw := ((hbel.alloc hbel.size _).drew).grown hgrow (by have := hbel.size; simp; omega) (fun k hk => (hown.lt k hk).1)
                          have hW5' : (W ++ [y, x]).length ≤ 512 := HB'.out.2.2.2.2
                          clear hown hgrow hrdW
                          go_wp2
                          go_roundw
                          case rel => exact ⟨j + 1, W ++ [y, x], by omega, by go_num, by simpa using hown1, fun h => by simp at h, HB', hW5', hBw⟩
                          case measure => simp [intOf]; omega
                      · have HB' : Hid (Blk frm zs (W ++ [y, x]) (zs.drop (j + 1))) := Inn.out HIn.out (fun t r e => by rw [List.drop_of_length_le (by omega)] at e; simp at e)
                        go_wp2
                        go_region_held3 (fun w' => w'.cell? ⟨b, off + i, none⟩ = some (.int .u64 y) ∧ w'.cell? ⟨b, off + j, none⟩ = some (.int .u64 x)) (first | go_keep | (go_split_ands; refine ⟨?_, ?_⟩ <;> (rw [hgrow.cell_far _ (by simp; omega) hnb]; simp [*]))) ((refine step_append_lies _ (by rfl) _ _ _ (by rfl) w2.heap.size 23 i0 (.int .u64 0) 1 8 Try.underlying22 hi hz0 hz1 hz2 rfl (by omega) (.slice aoW W.length capW) W.length (W.map (Value.int .u64)) (by rfl) ((hown.alloc _).drew) ⟨wr.heap.size, 0, none⟩ 2 2 [.int .u64 y, .int .u64 x] (by rfl) (by rfl) (World.news_of_block (heap_alloc_new wr _)) (ints_oneCell _ [y, x]) (by omega) (by unfold maxLen; omega) (by omega) (by have := hbel.size; simp; omega) (wr.heap.size + 1) (by simp) ?_; intro g capg w1 hown1 hgrow hat hlt))
                        have hBw := ((hbel.alloc hbel.size _).drew).grown hgrow (by have := hbel.size; simp; omega) (fun k hk => (hown.lt k hk).1)
                        have hW5' : (W ++ [y, x]).length ≤ 512 := HB'.out.2.2.2.2
                        clear hown hgrow hrdW
                        go_wp2
                        go_roundw
                        case rel => exact ⟨j + 1, W ++ [y, x], by omega, by go_num, by simpa using hown1, fun h => by simp at h, HB', hW5', hBw⟩
                        case measure => simp [intOf]; omega
                  · have hWe : W = runsF frm [] zs := Blk.full hBlk.out hdy h5
                    have hNW : aoW.isNone = ao2.isNone := by rw [hN, ← hWe]; exact none_iff HneW hWn
                    have hlW : n2 = W.length := by rw [hWe]; exact hn2.symm
                    have h2r : Rd wr ao2 W := by rw [hWe]; exact h2.below hbel
                    subst hlW
                    clear hWe hn2 hN h2
                    go_wp2_with fail
                    refine (equal_same ao2 aoW W.length cap2 capW W _ rfl (by omega) h2r hrdW).mono ?_
                    rintro e w' ⟨rfl, n, rfl⟩
                    go_wp2
                    go_ret
                    exact ⟨rfl, below_drewN (hB2.trans (hbel.mono hB2.size)) _⟩
                · have hWe : W = runsF frm [] zs := Blk.ended (by have := hBlk.out; rwa [List.drop_of_length_le (by omega)] at this)
                  have hNW : aoW.isNone = ao2.isNone := by rw [hN, ← hWe]; exact none_iff HneW hWn
                  have hlW : n2 = W.length := by rw [hWe]; exact hn2.symm
                  have h2r : Rd wr ao2 W := by rw [hWe]; exact h2.below hbel
                  subst hlW
                  clear hWe hn2 hN h2
                  go_wp2_with fail
                  refine (equal_same ao2 aoW W.length cap2 capW W _ rfl (by omega) h2r hrdW).mono ?_
                  rintro e w' ⟨rfl, n, rfl⟩
                  go_wp2
                  go_ret
                  exact ⟨rfl, below_drewN (hB2.trans (hbel.mono hB2.size)) _⟩
          · have hWe : runsF frm [] zs = [] := runsF_none (hR.out.symm.trans (firstFrom_end (by omega)))
            have hN2 : ao2.isNone = true := by rw [hN, hWe]; rfl
            have hl2 : n2 = 0 := by rw [← hn2, hWe]; rfl
            subst hl2
            clear hWe hn2 hN h2 hR
            go_wp2
            refine wp_loop_rounds 1 ?_
            rw [rounds_succ]
            go_wp2_with fail
            refine (equal_same ao2 none 0 cap2 0 [] _ rfl (by omega) (Rd.nil _ _) (Rd.nil _ _)).mono ?_
            rintro e w' ⟨rfl, n, rfl⟩
            go_wp2
            go_ret
            exact ⟨rfl, below_drewN hB2 _⟩
      · go_enter Try.func3, Try.ntmps3
        go_wp2_with fail
        refine (bytes12_yes _ _ _ _ _ hbig).mono ?_
        rintro e w' ⟨rfl, rfl⟩
        go_wp2_with fail
        refine (incr_any ao len cap zs _ hlen hbig h).mono ?_
        rintro e w' ⟨rfl, nd, rfl⟩
        rw [Bool.eq_false_iff.2 hinc]
        go_wp2
        go_ret
        exact ⟨rfl, below_drewN (Below.refl _ _) nd⟩
    · go_enter Try.func3, Try.ntmps3
      go_wp2_with fail
      refine (bytes12_yes _ _ _ _ _ hbig).mono ?_
      rintro e w' ⟨rfl, rfl⟩
      go_wp2
      go_ret
      exact ⟨rfl, Below.refl _ _⟩
  · go_enter Try.func3, Try.ntmps3
    go_wp2_with fail
    refine (bytes12_no _ _ _ _ _ hbig).mono ?_
    rintro e w' ⟨rfl, rfl⟩
    go_wp2
    go_ret
    exact ⟨rfl, Below.refl _ _⟩
end Go.Proofs.Qxb6602992a
