/-
  The walk of FnDigestOfHeldRunsLacksJustWhatIsNotHeld.
-/
import Derived.Test.Qxb6602992aDigestLaw
namespace Go.Proofs.Qxb6602992a
open Go.RowKit Go.Maps

theorem wf_four {x : Int} (hx : 0 ≤ x ∧ x ≤ 18446744073709551615) : Wf [x, IntKind.u64.wrap (x + 1), 0, 18446744073709551615] := by
  intro z hz
  simp only [List.mem_cons, List.not_mem_nil, or_false] at hz
  rcases hz with rfl | rfl | rfl | rfl
  · exact hx
  · rw [wrapU]; omega
  · omega
  · omega
theorem wf_three {P : List Int} {z : Int} (h : Wf P) (hz : 0 ≤ z ∧ z ≤ 18446744073709551615) : Wf (P ++ [IntKind.u64.wrap (z - 1), z, IntKind.u64.wrap (z + 1)]) := by
  intro y hy
  rcases List.mem_append.1 hy with hy | hy
  · exact h y hy
  · simp only [List.mem_cons, List.not_mem_nil, or_false] at hy
    rcases hy with rfl | rfl | rfl
    · rw [wrapU]; omega
    · exact hz
    · rw [wrapU]; omega

set_option maxHeartbeats 8000000 in
set_option maxRecDepth 1000000 in
theorem digest_walk (ho : Option Addr) (hl hc : Nat) (hs : List Int) (x1 x2 : Int) (n a : ByteArray) (x5 x6 : Int) (w : World) (hhl : hs.length = hl) (hh : Rd w ho hs) (hwf : Wf hs)
    (hhn : ho = none → hl = 0 ∧ hc = 0) (h1 : hl ≤ 9223372036854775807) (h3 : n.size ≤ 9223372036854775807) (h4 : a.size ≤ 9223372036854775807) (w5 : (Lit.int .u64 x5).wf = true) (hx2 : 0 ≤ x2 ∧ x2 ≤ 18446744073709551615) :
    Calls Try.prog 11 #[.slice ho hl hc, .int .u64 x1, .int .u64 x2, .string n, .string a, .int .u64 x5, .int .u64 x6] w fun e w' => e = .returned (.bool true) ∧ Below w.heap.size w w' := by
  obtain ⟨i0, hi, hz0, hz1, hz2⟩ := info_parts Try.info23
  by_cases hb : hl + n.size + a.size ≤ 1048576
  · by_cases hA : hl ≤ 4096 ∧ 8 * hl + n.size + a.size ≤ 1048576
    · obtain ⟨hA1, hA2⟩ := hA
      go_enter Try.func11, Try.ntmps11
      go_wp2_with fail
      refine (bytes35_yes ho hl hc x1 x2 n a x5 x6 _ hb).mono ?_
      rintro e w' ⟨rfl, rfl⟩
      go_wp2_with fail
      refine (clone_any ho hl hc hs _ hhl (by omega) hh hhn).mono ?_
      rintro e w1 ⟨ho1, hc1, rfl, hh1, hb1⟩
      clear hh hhn
      go_wp2_with fail
      have hwho := heap_alloc_new w1 (.cells #[.string n, .string a, .int .u64 x5] 32)
      have hb12 : Below w1.heap.size w1 (w1.alloc (.cells #[.string n, .string a, .int .u64 x5] 32)) := (Below.refl _ _).alloc (Nat.le_refl _) _
      generalize w1.alloc (.cells #[.string n, .string a, .int .u64 x5] 32) = w2 at hwho hb12 ⊢
      have hB2 : Below w.heap.size w w2 := hb1.trans (hb12.mono hb1.size)
      replace hh1 := hh1.below hb12
      obtain ⟨B0, hB0⟩ : ∃ B0, B0 = w1.heap.size := ⟨_, rfl⟩
      rw [← hB0] at hwho ⊢
      have hB0l : B0 < w2.heap.size := (Array.getElem?_eq_some_iff.1 hwho).1
      clear hb1 hb12 hB0
      refine (newheld w2).mono ?_
      rintro e w3 ⟨rfl, hH0, hb3, hlt3⟩
      have HW : Hid (w2.heap[B0]? = some (.cells #[.string n, .string a, .int .u64 x5] 32 (0, 0))) := hwho
      clear hwho
      go_wp2
      go_loopw [17] (fun si wr => ∃ k : Nat, k ≤ hl ∧ si = .int .i64 k ∧ ∃ ss D, Hid (HStart wr w2.heap.size w2.heap.size ss k D) ∧ Hid (HP ss D) ∧ Hid (ss.length ≤ k) ∧ Hid (Below w2.heap.size w2 wr)) (fun si _ => hl - (intOf si).toNat)
      case atStart => exact ⟨0, Nat.zero_le _, rfl, [], .map [], .inr ⟨hH0, rfl, rfl⟩, HP.nil, Nat.le_refl _, hb3⟩
      case round =>
        obtain ⟨k, hk, rfl, ss, D, hS, hP, hL, hbz⟩ := hrel
        have hhr := hh1.below hbz.out
        have hwr : wr.heap[B0]? = some (.cells #[.string n, .string a, .int .u64 x5] 32 (0, 0)) := by rw [hbz.out.block _ hB0l]; exact HW.out
        by_cases hlt : k < hl
        · obtain ⟨b, off, z, rfl, hcz, hz⟩ := hhr.getD (i := k) (by omega)
          have hbb : b < w2.heap.size := by
            obtain ⟨b', off', e1, e2, _⟩ := hh1 k (by omega)
            simp at e1; omega
          have hkI : (k : Int) < (hl : Int) := by omega
          have hzw : (Lit.int .u64 z).wf = true := wf_of (by rw [hz.out]; exact wf_getD hwf k)
          have hBr : w2.heap.size ≤ wr.heap.size := hbz.out.size
          have d0 : wr.cell? ⟨B0, 0, none⟩ = some (.string n) := by rw [cell_of_row _ _ _ _ _ _ hwr]; rfl
          have d1 : wr.cell? ⟨B0, 1, none⟩ = some (.string a) := by rw [cell_of_row _ _ _ _ _ _ hwr]; rfl
          have d2 : wr.cell? ⟨B0, 2, none⟩ = some (.int .u64 x5) := by rw [cell_of_row _ _ _ _ _ _ hwr]; rfl
          have hT := hS.out.tidy
          clear hhr hwr
          go_wp2
          go_region_held3 (fun w' => w'.cell? ⟨b, off + k, none⟩ = some (.int .u64 z) ∧ w'.cell? ⟨B0, 0, none⟩ = some (.string n) ∧ w'.cell? ⟨B0, 1, none⟩ = some (.string a) ∧ w'.cell? ⟨B0, 2, none⟩ = some (.int .u64 x5)) (go_keep) ((go_at_call 29; refine (zzput_any w2.heap.size w2.heap.size k ss D ⟨n, a, x5, z, x6, 0⟩ _ (by simpa using hBr) (hS.out.below (Below.refl _ _).drew) hP.out hzw (Nat.le_trans hL.out (by omega)) (by omega)).mono ?_; rintro e w4 ⟨rfl, ss', q1, q2, q3⟩; have kc : w4.cell? ⟨b, off + k, none⟩ = some (.int .u64 z) := (q3.cell (p := ⟨b, off + k, none⟩) hbb).trans hcz; have k0 : w4.cell? ⟨B0, 0, none⟩ = some (.string n) := (q3.cell (p := ⟨B0, 0, none⟩) hB0l).trans d0; have k1 : w4.cell? ⟨B0, 1, none⟩ = some (.string a) := (q3.cell (p := ⟨B0, 1, none⟩) hB0l).trans d1; have k2 : w4.cell? ⟨B0, 2, none⟩ = some (.int .u64 x5) := (q3.cell (p := ⟨B0, 2, none⟩) hB0l).trans d2))
          have hbz' : Below w2.heap.size w2 w4 := (hbz.out.drew).trans q3
          have hL' : ss'.length ≤ k + 1 := Nat.le_trans (put_len hT hP.out q2) (by have := hL.out; omega)
          clear hcz kc k0 k1 k2 d0 d1 d2 q3
          go_wp2
          go_roundw
          case rel => exact ⟨k + 1, by omega, by go_num, ss', _, q1, q2, hL', hbz'⟩
          case measure => simp [intOf]; omega
        · obtain ⟨w4, rfl⟩ : ∃ w4, w4 = wr := ⟨_, rfl⟩
          have HB4 : Hid (Below w.heap.size w w4) := hB2.trans (hbz.out.mono hB2.size)
          have HH4 : Hid (Rd w4 ho1 hs) := hhr
          have HW4 : Hid (w4.heap[B0]? = some (.cells #[.string n, .string a, .int .u64 x5] 32 (0, 0))) := hwr
          have hssl : ss.length ≤ 4096 := Nat.le_trans hL.out (by omega)
          have hinc := incr_of_pairwise ss hP.out.incr
          have hd0 : w4.cell? ⟨B0, 0, none⟩ = some (.string n) := by rw [cell_of_row _ _ _ _ _ _ hwr]; rfl
          clear hhr hwr hh1 hB2 hH0 hb3 hlt3 HW hd0
          go_wp2_with (go_at_call 31; refine (heldseqs w2.heap.size w2.heap.size k ss D _ hS.out).mono ?_; rintro e w' ⟨ao, cap, rfl, hrs, rfl⟩)
          refine (zzruns_any ao ss.length cap ss (IntKind.u64.wrap (x2 + 1)) _ rfl (by omega) hrs hP.out.wf).mono ?_
          rintro e w5' ⟨ao2, n2, cap2, rfl, hn2, hr2, hN, hb5⟩
          have HLAW : Hid (∀ x : Int, 0 ≤ x ∧ x ≤ 18446744073709551615 → lacksB true x1 x2 (runsF (IntKind.u64.wrap (x2 + 1)) [] ss) [] x x6 = (decide (x1 ≤ x6) && (decide (x2 < x) && (!(lst x ss) || (decide ((runsF (IntKind.u64.wrap (x2 + 1)) [] ss).length = 512) && decide ((if (runsF (IntKind.u64.wrap (x2 + 1)) [] ss).length = 512 then lastOf (runsF (IntKind.u64.wrap (x2 + 1)) [] ss) else 0) < x)))))) :=
            fun x hx => dig_law hinc hP.out.wf hx hx2.1 rfl (fun h => by rw [if_pos (by simpa using h)]; rfl)
          have hI2 : n2 ≤ 512 := by rw [← hn2]; exact (runsF_law _ _).2.1
          generalize runsF (IntKind.u64.wrap (x2 + 1)) [] ss = out at hn2 hr2 hN HLAW
          obtain ⟨tr, htr⟩ : ∃ tr, tr = decide (out.length = 512) := ⟨_, rfl⟩
          obtain ⟨last, hlast⟩ : ∃ last : Int, last = if out.length = 512 then lastOf out else 0 := ⟨_, rfl⟩
          rw [← htr, ← hlast] at HLAW
          have HTR : Hid (tr = decide (out.length = 512)) := htr
          have HLAST : Hid (last = if out.length = 512 then lastOf out else 0) := hlast
          have HW5 : Hid (w5'.heap[B0]? = some (.cells #[.string n, .string a, .int .u64 x5] 32 (0, 0))) := by rw [Hid, hb5.block _ (Array.getElem?_eq_some_iff.1 HW4.out).1]; exact HW4.out
          have d0 : w5'.cell? ⟨B0, 0, none⟩ = some (.string n) := by rw [cell_of_row _ _ _ _ _ _ HW5.out]; rfl
          have d1 : w5'.cell? ⟨B0, 1, none⟩ = some (.string a) := by rw [cell_of_row _ _ _ _ _ _ HW5.out]; rfl
          have d2 : w5'.cell? ⟨B0, 2, none⟩ = some (.int .u64 x5) := by rw [cell_of_row _ _ _ _ _ _ HW5.out]; rfl
          have hS5 := hS.out.below hb5
          clear htr hlast hN hrs
          go_wp2_with fail
          refine (digest_any x1 n a x5 x2 ao2 n2 cap2 none 0 0 _ h3 h4 w5).mono ?_
          rintro e w6 ⟨bd, rfl, hD, hb6⟩
          have hb46 : Below w4.heap.size w4 w6 := hb5.trans (hb6.mono hb5.size)
          have HB6 : Hid (Below w.heap.size w w6) := HB4.out.trans (hb46.mono HB4.out.size)
          have HH6 : Hid (Rd w6 ho1 hs) := HH4.out.below hb46
          have HW6 : Hid (w6.heap[B0]? = some (.cells #[.string n, .string a, .int .u64 x5] 32 (0, 0))) := by rw [Hid, hb6.block _ (Array.getElem?_eq_some_iff.1 HW5.out).1]; exact HW5.out
          have HR6 : Hid (Rd w6 ao2 out) := hr2.below hb6
          have HS6 : Hid (HStart w6 w2.heap.size w2.heap.size ss k D) := hS5.below hb6
          have HD6 : Hid (IsDig w6 bd x1 n a x5 x2 (.slice ao2 n2 cap2) (.slice none 0 0)) := hD
          clear d0 d1 d2 hS5 hb6 hb5 hD hr2 hb46 HB4 HH4 HW4 HW5 hS hbz hlt hk
          go_upto_if 97 with fail
          go_cut [20, 21] (fun t l wz => t = .bool tr ∧ l = .int .u64 last ∧ wz = w6)
          case first =>
            by_cases h5 : n2 = 512
            · have e1 : tr = true := by rw [HTR.out, hn2, h5]; rfl
              have g0 : ((n2 : Int) == 512) = true := by rw [h5]; rfl
              obtain ⟨b, off, y, rfl, hcy, hy⟩ := HR6.out.getD (i := n2 - 1) (by omega)
              have e2 : last = y := by rw [HLAST.out, if_pos (by omega), hy.out, lastOf, hn2]
              subst e1 e2
              clear g0
              subst h5
              go_wp2
              go_meet
              case rel => exact ⟨rfl, rfl, rfl⟩
            · have e1 : tr = false := by rw [HTR.out, hn2]; simp [h5]
              have e2 : last = 0 := by rw [HLAST.out, if_neg (by omega)]
              have g0 : ((n2 : Int) == 512) = false := beq_eq_false_iff_ne.2 (by omega)
              subst e1 e2
              go_wp2
              go_meet
              case rel => exact ⟨by rw [g0], rfl, rfl⟩
          case rest =>
            obtain ⟨rfl, rfl, rfl⟩ := hcut
            obtain ⟨w6, rfl⟩ : ∃ w6, w6 = wc := ⟨_, rfl⟩
            go_wp2_with (at_make; refine wpList_make_own _ rfl _ _ 22 rfl w6.heap.size 23 i0 (.int .u64 0) 1 Try.underlying22 hi hz0 hz1 _ _ _ (3 * hl + 4) rfl rfl (by omega) ?b2 ?b3 (Nat.le_refl _) ?_)
            case b2 => rw [hz2]; omega
            case b3 => unfold maxLen; omega
            intro w7 hown7 hg7
            have hb7 : Below w6.heap.size w6 w7 := (Below.refl _ _).grown hg7 (Nat.le_refl _) (fun k hk => by cases hk)
            go_wp2_with (at_builtin; refine wpList_append_own _ rfl _ _ 22 rfl w6.heap.size 23 i0 (.int .u64 0) 1 8 Try.underlying22 hi hz0 hz1 hz2 rfl (by decide) (.slice (some ⟨w6.heap.size, 0, none⟩) 0 (3 * hl + 4)) 0 [] rfl (hown7.alloc _) ⟨w7.heap.size, 0, none⟩ 4 4 [.int .u64 x2, .int .u64 (IntKind.u64.wrap (x2 + 1)), .int .u64 0, .int .u64 18446744073709551615] rfl rfl (cells_four_new _ _ _ _ _ _) (ints_oneCell _ [x2, IntKind.u64.wrap (x2 + 1), 0, 18446744073709551615]) (by unfold maxLen; omega) (by omega) (by have := hb7.size; simp; omega) ?_; intro v8 w8 hown8 hg8 hnn8)
            have hb8 : Below w6.heap.size w6 w8 := (hb7.alloc hb7.size _).grown hg8 (by have := hb7.size; simp; omega) (fun k hk => by cases hk; exact Nat.le_refl _)
            have HO8 : Hid (w8.ownsRow w6.heap.size 23 1 v8 4 ([x2, IntKind.u64.wrap (x2 + 1), 0, 18446744073709551615].map (Value.int .u64))) := hown8
            have HP8 : Hid (Wf [x2, IntKind.u64.wrap (x2 + 1), 0, 18446744073709551615]) := wf_four hx2
            clear hown8 hg8 hnn8 hown7 hg7 hb7
            go_loopw [22, 23] (fun v si wr => ∃ j : Nat, j ≤ hl ∧ si = .int .i64 j ∧ ∃ P : List Int, Hid (wr.ownsRow w6.heap.size 23 1 v P.length (P.map (Value.int .u64))) ∧ Hid (Wf P) ∧ Hid (P.length = 4 + 3 * j) ∧ Hid (Below w6.heap.size w6 wr)) (fun _ si _ => hl - (intOf si).toNat)
            case atStart => exact ⟨0, Nat.zero_le _, rfl, [x2, IntKind.u64.wrap (x2 + 1), 0, 18446744073709551615], HO8.out, HP8.out, rfl, hb8⟩
            case round =>
              obtain ⟨j, hj, rfl, P, hO, hPw, hPl, hbr⟩ := hrel
              obtain ⟨w9, rfl⟩ : ∃ w9, w9 = wr := ⟨_, rfl⟩
              have hpl := hPl.out
              obtain ⟨g, capg, rfl, hgl, hglt⟩ := hO.out.form (by omega)
              by_cases hlt : j < hl
              · have hhr := HH6.out.below hbr.out
                obtain ⟨b, off, z, rfl, hcz, hz⟩ := hhr.getD (i := j) (by omega)
                have hbb : b < w6.heap.size := by
                  obtain ⟨b', off', e1, e2, _⟩ := HH6.out j (by omega)
                  simp at e1; omega
                have hjI : (j : Int) < (hl : Int) := by omega
                have hzb : 0 ≤ z ∧ z ≤ 18446744073709551615 := by rw [hz.out]; exact wf_getD hwf j
                have hbr9 : w6.heap.size ≤ w9.heap.size := hbr.out.size
                have hnb : some b ≠ (Value.slice (some ⟨g, 0, none⟩) P.length capg).ownBlock := fun e => by simp [Value.ownBlock] at e; omega
                have hb9 : b < w9.heap.size := by omega
                have C0 : ∀ o, (w9.alloc o).cell? ⟨b, off + j, none⟩ = some (.int .u64 z) := fun o => by rw [World.cell?_alloc_past _ _ _ hb9]; exact hcz
                have hpm : P.length ≤ 20000 := by omega
                clear hhr
                have HPL : Hid (P.length = 4 + 3 * j) := hpl
                clear hpl
                go_wp2
                go_region_held3 (fun w' => w'.cell? ⟨b, off + j, none⟩ = some (.int .u64 z)) (go_keep) ((refine step_append_lies _ (by rfl) _ _ _ (by rfl) w6.heap.size 23 i0 (.int .u64 0) 1 8 Try.underlying22 hi hz0 hz1 hz2 rfl (by omega) (.slice (some ⟨g, 0, none⟩) P.length capg) P.length (P.map (Value.int .u64)) (by rfl) ((hO.out.alloc _).drew) ⟨w9.heap.size, 0, none⟩ 3 3 [.int .u64 (IntKind.u64.wrap (z - 1)), .int .u64 z, .int .u64 (IntKind.u64.wrap (z + 1))] (by rfl) (by rfl) (World.news_of_block (heap_alloc_new w9 _)) (ints_oneCell _ [IntKind.u64.wrap (z - 1), z, IntKind.u64.wrap (z + 1)]) (by omega) (by unfold maxLen; omega) (by omega) (by simp; omega) (w9.heap.size + 1) (by simp) ?_; intro g' capg' w10 hown10 hgrow hat10 hlt10; have kc : w10.cell? ⟨b, off + j, none⟩ = some (.int .u64 z) := (hgrow.cell_far ⟨b, off + j, none⟩ (by simp; omega) hnb).trans (C0 _)))
                have hb10 : Below w6.heap.size w6 w10 := ((hbr.out.alloc hbr9 _).drew).grown hgrow (by simp; omega) (fun k hk => by simp [Value.ownBlock] at hk; omega)
                have HO10 : Hid (w10.ownsRow w6.heap.size 23 1 (.slice (some ⟨g', 0, none⟩) (P.length + 3) capg') (P ++ [IntKind.u64.wrap (z - 1), z, IntKind.u64.wrap (z + 1)]).length ((P ++ [IntKind.u64.wrap (z - 1), z, IntKind.u64.wrap (z + 1)]).map (Value.int .u64))) := by simpa [Hid] using hown10
                have HPW : Hid (Wf (P ++ [IntKind.u64.wrap (z - 1), z, IntKind.u64.wrap (z + 1)])) := wf_three hPw.out hzb
                clear hown10 hgrow kc hcz
                go_wp2
                go_roundw
                case rel => exact ⟨j + 1, by omega, by go_num, _, HO10.out, HPW.out, by have := HPL.out; simp [Hid]; omega, hb10⟩
                case measure => simp [intOf]; omega
              · have HRP : Hid (Rd w9 (some ⟨g, 0, none⟩) P) := by
                  obtain ⟨ao', cap', e, hr, _⟩ := Rd.of_owns hO.out
                  simp at e
                  show Rd _ _ _
                  rw [← e.1] at hr; exact hr
                have hpm : P.length ≤ 20000 := by omega
                clear hpl hO
                go_wp2
                clear hlt hj
                have HB9 : Hid (Below w6.heap.size w6 w9) := hbr.out
                have HR9 : Hid (Rd w9 ao2 out) := HR6.out.below hbr.out
                have HS9 : Hid (HStart w9 w2.heap.size w2.heap.size ss k D) := HS6.out.below hbr.out
                have HD9 : Hid (IsDig w9 bd x1 n a x5 x2 (.slice ao2 n2 cap2) (.slice none 0 0)) := HD6.out.below hbr.out
                have HW9 : Hid (w9.heap[B0]? = some (.cells #[.string n, .string a, .int .u64 x5] 32 (0, 0))) := by rw [Hid, hbr.out.block _ (Array.getElem?_eq_some_iff.1 HW6.out).1]; exact HW6.out
                clear hb8 HO8 HP8 HH6 hPl hgl hglt hi hz0 hz1 hz2 i0
                go_loopw [24] (fun si w11 => ∃ p : Nat, p ≤ P.length ∧ si = .int .i64 p ∧ Hid (Below w9.heap.size w9 w11)) (fun si _ => P.length - (intOf si).toNat)
                case atStart => exact ⟨0, Nat.zero_le _, rfl, Below.refl _ _⟩
                case round =>
                  obtain ⟨p, hp, rfl, hb11⟩ := hrel
                  obtain ⟨w11, rfl⟩ : ∃ w11, w11 = wr := ⟨_, rfl⟩
                  have hR11 := HRP.out.below hb11.out
                  by_cases hlt : p < P.length
                  · obtain ⟨b, off, x, hge, hcx, hx⟩ := hR11.getD (i := p) hlt
                    obtain ⟨rfl, rfl⟩ : g = b ∧ 0 = off := by simpa using hge
                    have hcx0 : w11.cell? ⟨g, p, none⟩ = some (.int .u64 x) := by rw [← Nat.zero_add p]; exact hcx
                    have hxb : 0 ≤ x ∧ x ≤ 18446744073709551615 := by rw [hx.out]; exact wf_getD hPw.out p
                    have hget : Hid (∃ hb : Bool, Hid (hb = lst x ss) ∧ Calls Try.prog 33 #[.pointer (some ⟨w2.heap.size, 0, none⟩), .int .u64 x] w11 fun e w' => ∃ u : Msg, e = .returned (.tuple #[.agg #[.string u.n, .string u.a, .int .u64 u.i, .int .u64 u.s, .int .u64 u.v, .int .u64 u.f, .slice none 0 0, .slice none 0 0, .int .u64 0, .slice none 0 0], .bool hb]) ∧ Below w11.heap.size w11 w') := by
                      refine ⟨Maps.has D (.int .u64 x), ?_, ?_⟩
                      · show _ = _
                        rw [Bool.eq_iff_iff, ← hP.out.link x, lst_mem]
                      · refine (heldget w2.heap.size w2.heap.size k ss D x w11 (HS9.out.below hb11.out) (wf_of hxb)).mono ?_
                        rintro e w' ⟨u, rfl, _, hbb⟩
                        exact ⟨u, rfl, hbb⟩
                    have hlaw : Hid (lacksB true x1 x2 out [] x x6 = (decide (x1 ≤ x6) && (decide (x2 < x) && (!(lst x ss) || (tr && decide (last < x)))))) := HLAW.out x hxb
                    have HXB : Hid (0 ≤ x ∧ x ≤ 18446744073709551615) := hxb
                    obtain ⟨hb, hhb, hget⟩ := hget.out
                    have HG : Hid (Calls Try.prog 33 #[.pointer (some ⟨w2.heap.size, 0, none⟩), .int .u64 x] w11 fun e w' => ∃ u : Msg, e = .returned (.tuple #[.agg #[.string u.n, .string u.a, .int .u64 u.i, .int .u64 u.s, .int .u64 u.v, .int .u64 u.f, .slice none 0 0, .slice none 0 0, .int .u64 0, .slice none 0 0], .bool hb]) ∧ Below w11.heap.size w11 w') := hget
                    clear hget hR11 hxb
                    go_wp2_with fail
                    refine HG.out.mono ?_
                    rintro e w12 ⟨u, rfl, hb12⟩
                    have hb912 : Below w9.heap.size w9 w12 := hb11.out.trans (hb12.mono hb11.out.size)
                    clear hcx hcx0 HG hb12 hge
                    go_upto_region 31 with fail
                    have HB13 : Hid (Below w9.heap.size w9 (w12.alloc (.cells #[.string u.n, .string u.a, .int .u64 u.i, .int .u64 u.s, .int .u64 u.v, .int .u64 u.f, .slice none 0 0, .slice none 0 0, .int .u64 0, .slice none 0 0] 39))) := hb912.alloc hb912.size _
                    generalize (w12.alloc (.cells #[.string u.n, .string u.a, .int .u64 u.i, .int .u64 u.s, .int .u64 u.v, .int .u64 u.f, .slice none 0 0, .slice none 0 0, .int .u64 0, .slice none 0 0] 39)) = w13 at HB13 ⊢
                    clear hb912
                    obtain ⟨want, hwant⟩ : ∃ want, Hid (want = lacksB true x1 x2 out [] x x6) := ⟨_, rfl⟩
                    go_cut [28] (fun c wz => c = .bool want ∧ wz = w13)
                    case first =>
                      by_cases q1 : x1 ≤ x6
                      · by_cases q2 : x2 < x
                        · cases hb with
                          | false =>
                            obtain rfl : want = true := by rw [hwant.out, hlaw.out, ← hhb.out]; simp [q1, q2]
                            go_wp2
                            go_meet
                            case rel => exact ⟨rfl, rfl⟩
                          | true =>
                            cases tr with
                            | false =>
                              obtain rfl : want = false := by rw [hwant.out, hlaw.out, ← hhb.out]; simp
                              go_wp2
                              go_meet
                              case rel => exact ⟨rfl, rfl⟩
                            | true =>
                              obtain rfl : want = decide (last < x) := by rw [hwant.out, hlaw.out, ← hhb.out]; simp [q1, q2]
                              go_wp2
                              go_meet
                              case rel => exact ⟨rfl, rfl⟩
                        · obtain rfl : want = false := by rw [hwant.out, hlaw.out]; simp [q2]
                          go_wp2
                          go_meet
                          case rel => exact ⟨rfl, rfl⟩
                      · obtain rfl : want = false := by rw [hwant.out, hlaw.out]; simp [q1]
                        go_wp2
                        go_meet
                        case rel => exact ⟨rfl, rfl⟩
                    case rest =>
                      obtain ⟨rfl, rfl⟩ := hcut
                      obtain ⟨w13, rfl⟩ : ∃ w13, w13 = wc := ⟨_, rfl⟩
                      have hw13 : w13.heap[B0]? = some (.cells #[.string n, .string a, .int .u64 x5] 32 (0, 0)) := by rw [HB13.out.block _ (Array.getElem?_eq_some_iff.1 HW9.out).1]; exact HW9.out
                      have d0 : w13.cell? ⟨B0, 0, none⟩ = some (.string n) := by rw [cell_of_row _ _ _ _ _ _ hw13]; rfl
                      have d1 : w13.cell? ⟨B0, 1, none⟩ = some (.string a) := by rw [cell_of_row _ _ _ _ _ _ hw13]; rfl
                      have d2 : w13.cell? ⟨B0, 2, none⟩ = some (.int .u64 x5) := by rw [cell_of_row _ _ _ _ _ _ hw13]; rfl
                      have HG : Hid (Calls Try.prog 23 #[.pointer (some ⟨bd, 0, none⟩), .agg #[.string n, .string a, .int .u64 x5], .agg #[.string n, .string a, .int .u64 x5, .int .u64 x, .int .u64 x6, .int .u64 0, .slice none 0 0, .slice none 0 0, .int .u64 0, .slice none 0 0]] w13 fun e w' => e = .returned (.bool want) ∧ Below w13.heap.size w13 w') := by
                        refine (zzlacks_any bd x1 n a x5 x2 ao2 n2 cap2 none 0 0 out [] n a x5 x x6 w13 h3 h4 w5 h3 h4 w5 (HD9.out.below HB13.out) hn2 rfl (by omega) (by omega) (HR9.out.below HB13.out) (Rd.nil _ _)).mono ?_
                        rintro e w' ⟨rfl, h⟩
                        refine ⟨?_, h⟩
                        rw [hwant.out]; simp
                      clear hw13
                      go_wp2_with fail
                      refine HG.out.mono ?_
                      rintro e w14 ⟨rfl, hb14⟩
                      have hb9' : Below w9.heap.size w9 w14 := HB13.out.trans (hb14.mono HB13.out.size)
                      clear HG d0 d1 d2 hb14
                      cases want with
                      | false =>
                        go_wp2
                        go_roundw
                        case rel => exact ⟨p + 1, by omega, by go_num, hb9'⟩
                        case measure => simp [intOf]; omega
                      | true =>
                        go_wp2
                        go_roundw
                        case rel => exact ⟨p + 1, by omega, by go_num, hb9'⟩
                        case measure => simp [intOf]; omega
                  · go_wp2
                    go_ret
                    exact ⟨rfl, HB6.out.trans ((HB9.out.trans (hb11.out.mono HB9.out.size)).mono HB6.out.size)⟩
    · go_enter Try.func11, Try.ntmps11
      go_wp2_with fail
      refine (bytes35_yes ho hl hc x1 x2 n a x5 x6 _ hb).mono ?_
      rintro e w' ⟨rfl, rfl⟩
      go_wp2
      all_goals
        go_ret
        exact ⟨rfl, Below.refl _ _⟩
  · go_enter Try.func11, Try.ntmps11
    go_wp2_with fail
    refine (bytes35_no ho hl hc x1 x2 n a x5 x6 _ hb h1 h3 h4).mono ?_
    rintro e w' ⟨rfl, rfl⟩
    go_wp2
    go_ret
    exact ⟨rfl, Below.refl _ _⟩
end Go.Proofs.Qxb6602992a
