/-
  The walk of FnHeldMessagesKeepLastPutOfEachNumberInOrder.
-/
import Derived.Test.Qxb6602992aKeepLaw
namespace Go.Proofs.Qxb6602992a
open Go.RowKit Go.Maps

set_option maxHeartbeats 400000 in
theorem bytes27_yes (ho : Option Addr) (hl hc : Nat) (vo : Option Addr) (vl vc : Nat) (w : World) (h : hl + vl ≤ 1048576) :
    Calls Try.prog 27 #[.slice ho hl hc, .slice vo vl vc] w fun e w' => e = .returned (.bool true) ∧ w = w' := by
  go_enter Try.func27, Try.ntmps27
  go_wp2
  go_ret
  exact ⟨rfl, rfl⟩

set_option maxHeartbeats 400000 in
theorem bytes27_no (ho : Option Addr) (hl hc : Nat) (vo : Option Addr) (vl vc : Nat) (w : World) (h : ¬ hl + vl ≤ 1048576) (h1 : hl ≤ 9223372036854775807) (h2 : vl ≤ 9223372036854775807) :
    Calls Try.prog 27 #[.slice ho hl hc, .slice vo vl vc] w fun e w' => e = .returned (.bool false) ∧ w = w' := by
  go_enter Try.func27, Try.ntmps27
  go_wp2
  all_goals
    go_ret
    exact ⟨rfl, rfl⟩

theorem wf_of {x : Int} (h : 0 ≤ x ∧ x ≤ 18446744073709551615) : (Lit.int .u64 x).wf = true := WalkArith.wf_u64 (by omega)
theorem zero3 (w : World) : (zeroValue 3).run Try.prog w = .ok (.int .i64 0) w := by kernel_rfl
theorem wf_getD {zs : List Int} (h : Wf zs) (i : Nat) : 0 ≤ zs.getD i 0 ∧ zs.getD i 0 ≤ 18446744073709551615 := by
  rw [List.getD_eq_getElem?_getD]
  by_cases hi : i < zs.length
  · rw [List.getElem?_eq_getElem hi]; exact h _ (List.getElem_mem hi)
  · rw [List.getElem?_eq_none (by omega)]; simp

theorem incr_of_pairwise : ∀ (l : List Int), l.Pairwise (· < ·) → incr l = true := by
  intro l
  induction l with
  | nil => intro _; rfl
  | cons a r ih =>
    intro h
    cases r with
    | nil => rfl
    | cons b s =>
      have h1 := List.rel_of_pairwise_cons h (List.mem_cons_self (a := b) (l := s))
      rw [incr, if_neg (by omega)]
      exact ih (List.pairwise_cons.1 h).2

set_option maxHeartbeats 4000000 in
set_option maxRecDepth 1000000 in
theorem keep_walk (ho : Option Addr) (hl hc : Nat) (hs : List Int) (vo : Option Addr) (vl vc : Nat) (vs : List Int) (w : World) (hhl : hs.length = hl) (hvl : vs.length = vl) (hh : Rd w ho hs) (hv : Rd w vo vs) (hwf : Wf hs)
    (hhn : ho = none → hl = 0 ∧ hc = 0) (hvn : vo = none → vl = 0 ∧ vc = 0) (h1 : hl ≤ 9223372036854775807) (h2 : vl ≤ 9223372036854775807) :
    Calls Try.prog 9 #[.slice ho hl hc, .slice vo vl vc] w fun e w' => e = .returned (.bool true) ∧ Below w.heap.size w w' := by
  have hmm := @run_makeMap Try.prog
  by_cases hb : hl + vl ≤ 1048576
  · by_cases hA : hl ≤ 4096 ∧ vl ≤ 4096
    · obtain ⟨hA1, hA2⟩ := hA
      go_enter Try.func9, Try.ntmps9
      go_wp2_with fail
      refine (bytes27_yes ho hl hc vo vl vc _ hb).mono ?_
      rintro e w' ⟨rfl, rfl⟩
      go_wp2_with fail
      refine (clone_any ho hl hc hs _ hhl (by omega) hh hhn).mono ?_
      rintro e w1 ⟨ho1, hc1, rfl, hh1, hb1⟩
      go_wp2_with fail
      refine (clone_any vo vl vc vs _ hvl (by omega) (hv.below hb1) hvn).mono ?_
      rintro e w2 ⟨vo1, vc1, rfl, hv1, hb2⟩
      replace hh1 := hh1.below hb2
      have hB2 : Below w.heap.size w w2 := hb1.trans (hb2.mono hb1.size)
      clear hh hv hhn hvn hb1 hb2
      go_wp2_with fail
      refine (newheld _).mono ?_
      rintro e w3 ⟨rfl, hH0, hb3, hlt3⟩
      go_wp2
      go_loopw [6] (fun si wr => ∃ k : Nat, k ≤ hl ∧ si = .int .i64 k ∧ ∃ ss D, Hid (HStart wr w2.heap.size w2.heap.size ss k D) ∧ Hid (HP ss D) ∧ Hid (LK hs vs k D) ∧ Hid (Below w2.heap.size w2 wr)) (fun si _ => hl - (intOf si).toNat)
      case atStart => exact ⟨0, Nat.zero_le _, rfl, [], .map [], .inr ⟨hH0, rfl, rfl⟩, HP.nil, LK.start _ _, hb3⟩
      case round =>
        obtain ⟨k, hk, rfl, ss, D, hS, hP, hL, hbz⟩ := hrel
        have hhr := hh1.below hbz.out
        have hvr := hv1.below hbz.out
        by_cases hlt : k < hl
        · obtain ⟨b, off, z, rfl, hcz, hz⟩ := hhr.getD (i := k) (by omega)
          have hbb : b < w2.heap.size := by
            obtain ⟨b', off', e1, e2, _⟩ := hh1 k (by omega)
            simp at e1; omega
          have hkI : (k : Int) < (hl : Int) := by omega
          have hzw : (Lit.int .u64 z).wf = true := wf_of (by rw [hz.out]; exact wf_getD hwf k)
          obtain ⟨vk, hvk⟩ : ∃ vk, Hid (vk = vs.getD k 0) := ⟨_, rfl⟩
          have hview : Hid (∀ wz, Below wr.heap.size wr wz → Calls Try.prog 30 #[.slice vo1 vl vc1, .int .i64 k] wz fun e w' => e = .returned (.int .u64 vk) ∧ wz = w') := by
            intro wz hwz
            rw [hvk.out]
            exact viewat vo1 vl vc1 vs k wz hvl (by omega) (hvr.below hwz)
          have hMk : Hid ((⟨⟨#[]⟩, ⟨#[]⟩, 0, z, vk, k⟩ : Msg) = mkM hs vs k) := by show _ = _; rw [hz.out, hvk.out]; rfl
          have hBr : w2.heap.size ≤ wr.heap.size := hbz.out.size
          have hssl : Hid (ss.length ≤ 4096) := by show _ ≤ _; rw [← hP.out.size, hL.out.size]; have := cnt_le hs k; omega
          have HST : Hid (LK hs vs (k + 1) (D.put (.int .u64 z) (.held ⟨⟨#[]⟩, ⟨#[]⟩, 0, z, vk, k⟩))) := by
            have := hL.out.step
            show LK _ _ _ _
            rw [hMk.out, hz.out]; exact this
          have hwk : IntKind.u64.wrap (k : Int) = (k : Int) := by rw [wrapU]; omega
          clear hvr hhr
          go_wp2
          go_region_held3 (fun w' => w'.cell? ⟨b, off + k, none⟩ = some (.int .u64 z)) (go_keep) (first | (go_at_call 30; refine (hview.out _ (Below.refl _ _).drew).mono ?_; rintro e w' ⟨rfl, rfl⟩) | (go_at_call 29; refine (zzput_any w2.heap.size w2.heap.size k ss D ⟨⟨#[]⟩, ⟨#[]⟩, 0, z, vk, k⟩ _ (by simpa using hBr) (hS.out.below (Below.refl _ _).drew) hP.out hzw hssl.out (by omega)).mono ?_; rintro e w4 ⟨rfl, ss', q1, q2, q3⟩; have kc : w4.cell? ⟨b, off + k, none⟩ = some (.int .u64 z) := (q3.cell (p := ⟨b, off + k, none⟩) hbb).trans hcz))
          have hbz' : Below w2.heap.size w2 w4 := (hbz.out.drew).trans q3
          clear hcz kc
          go_wp2
          go_roundw
          case rel => exact ⟨k + 1, by omega, by go_num, ss', _, q1, q2, HST.out, hbz'⟩
          case measure => simp [intOf]; omega
        · have hkl : k = hl := by omega
          have HL : Hid (LK hs vs hl D) := hkl ▸ hL.out
          have HH : Hid (Rd wr ho1 hs) := hhr
          have HV : Hid (Rd wr vo1 vs) := hvr
          have hBz : Hid (Below w.heap.size w wr) := hB2.trans (hbz.out.mono hB2.size)
          obtain ⟨w4, rfl⟩ : ∃ w4, w4 = wr := ⟨_, rfl⟩
          clear hL hhr hvr hh1 hv1 hB2 hbz hH0 hb3 hlt3
          go_wp2
          clear hlt hkl
          go_loopw [8] (fun si w5 => ∃ j : Nat, j ≤ hl ∧ si = .int .i64 j ∧ ∃ D2, Hid (w5.ownsMap Try.prog 23 (plainElem (H := Unit) Try.prog 3) w4.heap.size j D2) ∧ Hid (LI hs j D2) ∧ Hid (Below w4.heap.size w4 w5)) (fun si _ => hl - (intOf si).toNat)
          case atStart => exact ⟨0, Nat.zero_le _, rfl, .map [], World.ownsMap_made _ _ _ _, LI.start _, (Below.refl _ _).alloc (Nat.le_refl _) _⟩
          case round =>
            obtain ⟨j, hj, rfl, D2, hown, hLI, hb4⟩ := hrel
            have hhr := HH.out.below hb4.out
            by_cases hlt : j < hl
            · obtain ⟨b, off, z, rfl, hcz, hz⟩ := hhr.getD (i := j) (by omega)
              have hzw : (Lit.int .u64 z).wf = true := wf_of (by rw [hz.out]; exact wf_getD hwf j)
              have HLS : Hid (LI hs (j + 1) (D2.put (.int .u64 z) (.lit (.int .i64 j)))) := by
                have := hLI.out.step
                show LI _ _ _
                rw [hz.out]; exact this
              clear hhr
              go_wp2_with (at_mapUpdate; refine wpList_mapUpdate_own _ rfl _ _ _ 46 rfl 23 3 key23 Try.underlying46 _ w4.heap.size j _ rfl hown.out (by unfold maxLen; omega) _ _ _ rfl rfl (keyOf_int_mk Try.underlying23 hzw) _ [] (plainElem_int Try.underlying3 (WalkArith.wf_i64 (by omega))) ?_; intro w6 hown6 hg6)
              have hb6 : Below w4.heap.size w4 w6 := hb4.out.grown hg6 hb4.out.size (fun k hk => by cases hk; exact Nat.le_refl _)
              clear hg6
              go_wp2
              go_roundw
              case rel => exact ⟨j + 1, by omega, by go_num, _, hown6, HLS.out, hb6⟩
              case measure => simp [intOf]; omega
            · have hjl : j = hl := by omega
              have HLI : Hid (LI hs hl D2) := hjl ▸ hLI.out
              obtain ⟨w5, rfl⟩ : ∃ w5, w5 = wr := ⟨_, rfl⟩
              have hS5 := hS.out.below hb4.out
              have hlen : ∀ ty, (Builtin.len_ #[46] ty #[.map (some w4.heap.size)]).run Try.prog w5 = .ok (.int .i64 ss.length) w5 := fun ty => by
                rw [hown.out.len Try.underlying46, HLI.out.size, ← HL.out.size, hP.out.size]
              go_wp2_with (first | (go_at_call 31; refine (heldseqs w2.heap.size w2.heap.size k ss D _ hS5).mono ?_; rintro e w' ⟨ao, cap, rfl, hrs, rfl⟩) | (go_at_call 32; refine (heldcount w2.heap.size w2.heap.size k ss D _ hS5 hP.out).mono ?_; rintro e w' ⟨rfl, rfl⟩) | fail)
              have hssl : ss.length ≤ 4096 := by rw [← hP.out.size, HL.out.size]; have := cnt_le hs hl; omega
              refine (incr_any ao ss.length cap ss _ rfl (by omega) hrs).mono ?_
              rintro e w' ⟨rfl, nd, rfl⟩
              rw [incr_of_pairwise ss hP.out.incr]
              have HB5 : Hid (Below w.heap.size w w5) := hBz.out.trans (hb4.out.mono hBz.out.size)
              have HV5 : Hid (Rd w5 vo1 vs) := HV.out.below hb4.out
              have HR5 : Hid (Rd w5 ao ss) := hrs
              have HS5 : Hid (HStart w5 w2.heap.size w2.heap.size ss k D) := hS5
              clear hrs hS5 hlen hb4 hBz HV HH hhr hS hLI hlt hjl hj
              go_wp2
              go_loopw [10] (fun si w7 => ∃ m : Nat, m ≤ ss.length ∧ si = .int .i64 m ∧ Hid (Below w5.heap.size w5 w7)) (fun si _ => ss.length - (intOf si).toNat)
              case atStart => exact ⟨0, Nat.zero_le _, rfl, below_drewN (Below.refl _ _) nd⟩
              case round =>
                obtain ⟨m, hm, rfl, hb7⟩ := hrel
                obtain ⟨w7, rfl⟩ : ∃ w7, w7 = wr := ⟨_, rfl⟩
                have hR7 := HR5.out.below hb7.out
                by_cases hlt : m < ss.length
                · obtain ⟨b, off, x, rfl, hcx, hx⟩ := hR7.getD (i := m) hlt
                  have hxm : x ∈ ss := by rw [hx.out, List.getD_eq_getElem?_getD, List.getElem?_eq_getElem hlt]; exact List.getElem_mem hlt
                  have hxw : (Lit.int .u64 x).wf = true := wf_of (hP.out.wf x hxm)
                  obtain ⟨j', hj'⟩ : ∃ j', li hs hl x = some j' := by
                    have := (hP.out.link x).1 hxm
                    rw [HL.out.has] at this
                    exact Option.isSome_iff_exists.1 this
                  have hD : Maps.has D (.int .u64 x) = true := (hP.out.link x).1 hxm
                  have hsp := li_spec hs hl x j' hj'
                  obtain ⟨vj, hvj⟩ : ∃ vj, Hid (vj = vs.getD j' 0) := ⟨_, rfl⟩
                  have hlk : (Instr.lookup 46 (.map (some w4.heap.size)) (.int .u64 x) true).run Try.prog w7 = .ok (.tuple #[.int .i64 j', .bool true]) w7 := by
                    have hg : w5.grownBy w7 none := ⟨hb7.out.os, hb7.out.tape, hb7.out.output, hb7.out.size, fun k hk _ => hb7.out.block k hk⟩
                    obtain ⟨v, ps, hrun, hv⟩ := (hown.out.kept hg (by simp)).look_ok key23 Try.underlying46 (zero3 w7) (plainElem_int Try.underlying3 (by decide)) (keyOf_int_mk Try.underlying23 hxw)
                    rw [HLI.out.at_ x j' hj'] at hv
                    obtain ⟨c, rfl, hc, _⟩ := plainElem_int_inv Try.underlying3 hv
                    rw [hrun, HLI.out.has, hj']
                    simp at hc
                    rw [hc.1]; rfl
                  have hget : Hid (Calls Try.prog 33 #[.pointer (some ⟨w2.heap.size, 0, none⟩), .int .u64 x] w7 fun e w' => e = .returned (.tuple #[.agg #[.string ⟨#[]⟩, .string ⟨#[]⟩, .int .u64 0, .int .u64 x, .int .u64 vj, .int .u64 j', .slice none 0 0, .slice none 0 0, .int .u64 0, .slice none 0 0], .bool true]) ∧ Below w7.heap.size w7 w') := by
                    refine (heldget w2.heap.size w2.heap.size k ss D x w7 (HS5.out.below hb7.out) hxw).mono ?_
                    rintro e w' ⟨u, rfl, hu, hbb⟩
                    rw [HL.out.at_ x j' hj'] at hu
                    have hu' : mkM hs vs j' = u := by simpa using hu
                    refine ⟨?_, hbb⟩
                    rw [← hu', hD, hvj.out]
                    show Ending.returned (.tuple #[.agg #[.string ⟨#[]⟩, .string ⟨#[]⟩, .int .u64 0, .int .u64 (hs.getD j' 0), .int .u64 (vs.getD j' 0), .int .u64 j', .slice none 0 0, .slice none 0 0, .int .u64 0, .slice none 0 0], .bool true]) = _
                    rw [hsp.2]
                  have hj4 : j' ≤ 4096 := by omega
                  go_wp2_with fail
                  refine hget.out.mono ?_
                  rintro e w8 ⟨rfl, hb8⟩
                  have hb58 : Below w5.heap.size w5 w8 := hb7.out.trans (hb8.mono hb7.out.size)
                  have hbl : b < w8.heap.size := by
                    obtain ⟨b', off', e1, e2, _⟩ := hR7 m hlt
                    simp at e1
                    have := hb8.size
                    omega
                  have hcx8 : w8.cell? ⟨b, off + m, none⟩ = some (.int .u64 x) := (hb8.cell (p := ⟨b, off + m, none⟩) (World.block_lt_of_cell? w7 _ hcx)).trans hcx
                  have hcxa : ∀ o, (w8.alloc o).cell? ⟨b, off + m, none⟩ = some (.int .u64 x) := fun o => by rw [World.cell?_alloc_past _ _ _ hbl]; exact hcx8
                  have hview : Hid (∀ o nq, Calls Try.prog 30 #[.slice vo1 vl vc1, .int .i64 j'] ((w8.alloc o).drewN nq) fun e w' => e = .returned (.int .u64 vj) ∧ w' = (w8.alloc o).drewN nq) := by
                    intro o nq
                    rw [hvj.out]
                    refine (viewat vo1 vl vc1 vs j' _ hvl (by omega) (HV5.out.below ?_)).mono (fun e w' h => ⟨h.1, h.2.symm⟩)
                    exact below_drewN (hb58.alloc hb58.size _) nq
                  have hwj : IntKind.u64.wrap (j' : Int) = (j' : Int) := by rw [wrapU]; omega
                  have hmI : (m : Int) < (ss.length : Int) := by omega
                  have hn36 := fun wx a n c => run_neq_slice_nil_any (P := Try.prog) wx 36 5 a n c 0 0 Try.underlying36
                  clear hlk hcx hR7
                  go_wp2
                  go_quiet ((go_at_call 30; exact Calls.quiet_of_same (hview.out _ _)))
                  go_wp2
                  go_roundw
                  case rel => exact ⟨m + 1, by omega, by go_num, below_drewN (hb58.alloc hb58.size _) _⟩
                  case measure => simp [intOf]; omega
                · go_wp2
                  go_ret
                  exact ⟨rfl, HB5.out.trans (hb7.out.mono HB5.out.size)⟩
    · go_enter Try.func9, Try.ntmps9
      go_wp2_with fail
      refine (bytes27_yes ho hl hc vo vl vc _ hb).mono ?_
      rintro e w' ⟨rfl, rfl⟩
      go_wp2
      all_goals
        go_ret
        exact ⟨rfl, Below.refl _ _⟩
  · go_enter Try.func9, Try.ntmps9
    go_wp2_with fail
    refine (bytes27_no ho hl hc vo vl vc _ hb h1 h2).mono ?_
    rintro e w' ⟨rfl, rfl⟩
    go_wp2
    go_ret
    exact ⟨rfl, Below.refl _ _⟩
end Go.Proofs.Qxb6602992a
