/-
  The walk of FnLacksNeverGrowsWithWhatTheDigestSays.
-/
import Derived.Test.Qxb6602992aLacks
import Derived.Deep.DeepCutAuto
import Derived.OpenShut
namespace Go.Proofs.Qxb6602992a
open Go.RowKit Go.Maps

set_option maxHeartbeats 400000 in
theorem bytes26_yes (x0 x1 x2 x3 : Int) (ho : Option Addr) (hl hc : Nat) (vo : Option Addr) (vl vc : Nat) (n a : ByteArray) (x8 x9 x10 : Int) (x11 : Bool) (w : World) (h : hl + vl + n.size + a.size ≤ 1048576) :
    Calls Try.prog 26 #[.int .u64 x0, .int .u64 x1, .int .u64 x2, .int .u64 x3, .slice ho hl hc, .slice vo vl vc, .string n, .string a, .int .u64 x8, .int .u64 x9, .int .u64 x10, .bool x11] w fun e w' => e = .returned (.bool true) ∧ w = w' := by
  go_enter Try.func26, Try.ntmps26
  go_wp2
  go_ret
  exact ⟨rfl, rfl⟩

set_option maxHeartbeats 400000 in
theorem bytes26_no (x0 x1 x2 x3 : Int) (ho : Option Addr) (hl hc : Nat) (vo : Option Addr) (vl vc : Nat) (n a : ByteArray) (x8 x9 x10 : Int) (x11 : Bool) (w : World) (h : ¬ hl + vl + n.size + a.size ≤ 1048576) (h1 : hl ≤ 9223372036854775807) (h2 : vl ≤ 9223372036854775807) (h3 : n.size ≤ 9223372036854775807) (h4 : a.size ≤ 9223372036854775807) :
    Calls Try.prog 26 #[.int .u64 x0, .int .u64 x1, .int .u64 x2, .int .u64 x3, .slice ho hl hc, .slice vo vl vc, .string n, .string a, .int .u64 x8, .int .u64 x9, .int .u64 x10, .bool x11] w fun e w' => e = .returned (.bool false) ∧ w = w' := by
  go_enter Try.func26, Try.ntmps26
  go_wp2
  all_goals
    go_ret
    exact ⟨rfl, rfl⟩

theorem lacks_rp {s : Bool} {jl jh al ah : Int} {hs vs : List Int} {x v : Int} (h1 : jl ≤ jh) (h2 : al ≤ ah) : lacksB s jh ah hs vs x v = true → lacksB s jl al hs vs x v = true := by
  unfold lacksB
  cases s
  · simp only [Bool.and_eq_true, decide_eq_true_eq]
    intro h; exact ⟨by omega, h.2⟩
  · simp only [Bool.and_eq_true, decide_eq_true_eq, if_true, Bool.not_eq_true', Bool.or_eq_false_iff, decide_eq_false_iff_not]
    intro h; exact ⟨by omega, ⟨by omega, h.2.1.2⟩, h.2.2⟩
theorem lacks_pb {s : Bool} {j ac : Int} {hs vs : List Int} {x v : Int} : lacksB s j ac hs vs x v = true → lacksB s j ac [] [] x v = true := by
  unfold lacksB
  cases s
  · exact id
  · simp only [Bool.and_eq_true, decide_eq_true_eq, if_true, Bool.not_eq_true', Bool.or_eq_false_iff, decide_eq_false_iff_not]
    intro h; exact ⟨h.1, ⟨h.2.1.1, rfl⟩, rfl⟩

/-- The three boxes of the law: who, key, m. -/
def Boxes (wz : World) (B : Nat) (n a : ByteArray) (x8 ki x9 x10 : Int) : Prop :=
  B + 1 + 1 < wz.heap.size ∧ wz.heap[B]? = some (.cells #[.string n, .string a, .int .u64 x8] 32 (0, 0)) ∧ wz.heap[B + 1]? = some (.cells #[.string n, .string a, .int .u64 ki] 32 (0, 0)) ∧ wz.heap[B + 1 + 1]? = some (.cells #[.string n, .string a, .int .u64 x8, .int .u64 x9, .int .u64 x10, .int .u64 0, .slice none 0 0, .slice none 0 0, .int .u64 0, .slice none 0 0] 39 (0, 0))

theorem Boxes.below {wz w' : World} {B : Nat} {n a : ByteArray} {x8 ki x9 x10 : Int} (h : Boxes wz B n a x8 ki x9 x10) (hb : Below wz.heap.size wz w') : Boxes w' B n a x8 ki x9 x10 := by
  obtain ⟨h0, h1, h2, h3⟩ := h
  exact ⟨Nat.lt_of_lt_of_le h0 hb.size, by rw [hb.block _ (by omega)]; exact h1, by rw [hb.block _ (by omega)]; exact h2, by rw [hb.block _ (by omega)]; exact h3⟩

/-- The cells of the boxes. -/
def BoxCells (wz : World) (B : Nat) (n a : ByteArray) (x8 ki x9 x10 : Int) : Prop :=
  (wz.cell? ⟨B, 0, none⟩ = some (.string n) ∧ wz.cell? ⟨B, 1, none⟩ = some (.string a) ∧ wz.cell? ⟨B, 2, none⟩ = some (.int .u64 x8)) ∧
  (wz.cell? ⟨B + 1, 0, none⟩ = some (.string n) ∧ wz.cell? ⟨B + 1, 1, none⟩ = some (.string a) ∧ wz.cell? ⟨B + 1, 2, none⟩ = some (.int .u64 ki)) ∧
  (wz.cell? ⟨B + 1 + 1, 0, none⟩ = some (.string n) ∧ wz.cell? ⟨B + 1 + 1, 1, none⟩ = some (.string a) ∧ wz.cell? ⟨B + 1 + 1, 2, none⟩ = some (.int .u64 x8) ∧ wz.cell? ⟨B + 1 + 1, 3, none⟩ = some (.int .u64 x9) ∧ wz.cell? ⟨B + 1 + 1, 4, none⟩ = some (.int .u64 x10) ∧
   wz.cell? ⟨B + 1 + 1, 5, none⟩ = some (.int .u64 0) ∧ wz.cell? ⟨B + 1 + 1, 6, none⟩ = some (.slice none 0 0) ∧ wz.cell? ⟨B + 1 + 1, 7, none⟩ = some (.slice none 0 0) ∧ wz.cell? ⟨B + 1 + 1, 8, none⟩ = some (.int .u64 0) ∧ wz.cell? ⟨B + 1 + 1, 9, none⟩ = some (.slice none 0 0))

theorem Boxes.cells {wz : World} {B : Nat} {n a : ByteArray} {x8 ki x9 x10 : Int} (h : Boxes wz B n a x8 ki x9 x10) : BoxCells wz B n a x8 ki x9 x10 := by
  obtain ⟨h0, h1, h2, h3⟩ := h
  refine ⟨⟨?_, ?_, ?_⟩, ⟨?_, ?_, ?_⟩, ?_, ?_, ?_, ?_, ?_, ?_, ?_, ?_, ?_, ?_⟩
  all_goals first | (rw [cell_of_row _ _ _ _ _ _ h1]; rfl) | (rw [cell_of_row _ _ _ _ _ _ h2]; rfl) | (rw [cell_of_row _ _ _ _ _ _ h3]; rfl)

theorem bcell {W w1 : World} (hb : Below W.heap.size W w1) : ∀ b o, b < W.heap.size → w1.cell? ⟨b, o, none⟩ = W.cell? ⟨b, o, none⟩ :=
  fun b o h => hb.cell (p := ⟨b, o, none⟩) h

set_option maxHeartbeats 4000000 in
set_option maxRecDepth 1000000 in
theorem grows_walk (x0 x1 x2 x3 : Int) (ho : Option Addr) (hl hc : Nat) (hs : List Int) (vo : Option Addr) (vl vc : Nat) (vs : List Int) (n a : ByteArray) (x8 x9 x10 : Int) (x11 : Bool) (w : World)
    (hhl : hs.length = hl) (hvl : vs.length = vl) (hh : Rd w ho hs) (hv : Rd w vo vs) (hhn : ho = none → hl = 0 ∧ hc = 0) (hvn : vo = none → vl = 0 ∧ vc = 0) (h1 : hl ≤ 9223372036854775807) (h2 : vl ≤ 9223372036854775807) (h3 : n.size ≤ 9223372036854775807) (h4 : a.size ≤ 9223372036854775807)
    (h8 : (Lit.int .u64 x8).wf = true) :
    Calls Try.prog 8 #[.int .u64 x0, .int .u64 x1, .int .u64 x2, .int .u64 x3, .slice ho hl hc, .slice vo vl vc, .string n, .string a, .int .u64 x8, .int .u64 x9, .int .u64 x10, .bool x11] w fun e w' => e = .returned (.bool true) ∧ Below w.heap.size w w' := by
  by_cases hb : hl + vl + n.size + a.size ≤ 1048576
  · by_cases hA : 8 * hl + 8 * vl + n.size + a.size ≤ 1048576
    · go_enter Try.func8, Try.ntmps8
      go_wp2_with fail
      refine (bytes26_yes x0 x1 x2 x3 ho hl hc vo vl vc n a x8 x9 x10 x11 _ hb).mono ?_
      rintro e w' ⟨rfl, rfl⟩
      go_wp2_with fail
      refine (clone_any ho hl hc hs _ hhl (by omega) hh hhn).mono ?_
      rintro e w1 ⟨ho1, hc1, rfl, hh1, hb1⟩
      go_wp2_with fail
      refine (clone_any vo vl vc vs _ hvl (by omega) (hv.below hb1) hvn).mono ?_
      rintro e w2 ⟨vo1, vc1, rfl, hv1, hb2⟩
      replace hh1 := hh1.below hb2
      have hB2 : Below w.heap.size w w2 := hb1.trans (hb2.mono hb1.size)
      clear hh hv hhn hvn hb1 hb2
      go_upto_if 90 with fail
      go_cut [25, 26] (fun lo hi wz => ∃ jl jh : Int, lo = .int .u64 jl ∧ hi = .int .u64 jh ∧ jl ≤ jh ∧ wz = w2)
      case first =>
        by_cases hj : x1 < x0
        · go_wp2
          go_meet
          case rel => exact ⟨_, _, rfl, rfl, by omega, rfl⟩
        · go_wp2
          go_meet
          case rel => exact ⟨_, _, rfl, rfl, by omega, rfl⟩
      case rest =>
        obtain ⟨jl, jh, rfl, rfl, hjj, rfl⟩ := hcut
        go_upto_if 97 with fail
        go_cut [27, 28] (fun lo hi wz => ∃ al ah : Int, lo = .int .u64 al ∧ hi = .int .u64 ah ∧ al ≤ ah ∧ wz = wc)
        case first =>
          by_cases hj : x3 < x2
          · go_wp2
            go_meet
            case rel => exact ⟨_, _, rfl, rfl, by omega, rfl⟩
          · go_wp2
            go_meet
            case rel => exact ⟨_, _, rfl, rfl, by omega, rfl⟩
        case rest =>
          obtain ⟨al, ah, rfl, rfl, haa, rfl⟩ := hcut
          go_upto_if 105 with fail
          go_cut [105] (fun _ wz => ∃ ki : Int, (Lit.int .u64 ki).wf = true ∧ wz = (wc.alloc (.cells #[.string n, .string a, .int .u64 x8] 32)).alloc (.cells #[.string n, .string a, .int .u64 ki] 32))
          case first =>
            cases x11
            · go_wp2
              go_meet
              case rel => exact ⟨_, h8, rfl⟩
            · go_wp2
              go_meet
              case rel => exact ⟨_, wf_bits _ _ _ _, rfl⟩
          case rest =>
            obtain ⟨ki, hki, rfl⟩ := hcut
            obtain ⟨w3, rfl⟩ : ∃ w3, w3 = wc := ⟨_, rfl⟩
            go_upto_region 19 with fail
            go_cut [31] (fun p wz => p = .pointer (some ⟨w3.heap.size + 1 + 1, 0, none⟩) ∧ Hid (Boxes wz w3.heap.size n a x8 ki x9 x10) ∧ Hid (Rd wz ho1 hs) ∧ Hid (Rd wz vo1 vs) ∧ Hid (Below w.heap.size w wz))
            case first =>
              have hbel : ∀ o1 o2 o3, Below w3.heap.size w3 (((w3.alloc o1).alloc o2).alloc o3) := fun o1 o2 o3 => (((Below.refl _ _).alloc (Nat.le_refl _) _).alloc (by simp) _).alloc (by simp; omega) _
              go_wp2
              go_meet
              case rel =>
                refine ⟨rfl, ⟨by simp, ?_, ?_, ?_⟩, hh1.below (hbel _ _ _), hv1.below (hbel _ _ _), hB2.trans ((hbel _ _ _).mono hB2.size)⟩
                · rw [Below.heap_alloc _ _ _ (by simp; omega), Below.heap_alloc _ _ _ (by simp)]; exact heap_alloc_new w3 _
                · rw [Below.heap_alloc _ _ _ (by simp)]; simpa using heap_alloc_new (w3.alloc (.cells #[.string n, .string a, .int .u64 x8] 32)) (.cells #[.string n, .string a, .int .u64 ki] 32)
                · simpa using heap_alloc_new ((w3.alloc (.cells #[.string n, .string a, .int .u64 x8] 32)).alloc (.cells #[.string n, .string a, .int .u64 ki] 32)) (.cells #[.string n, .string a, .int .u64 x8, .int .u64 x9, .int .u64 x10, .int .u64 0, .slice none 0 0, .slice none 0 0, .int .u64 0, .slice none 0 0] 39)
            case rest =>
              obtain ⟨rfl, hBx, hh2, hv2, hbz⟩ := hcut
              obtain ⟨rich, rich_is⟩ : ∃ b, Hid (b = lacksB (decide (ki = x8)) jh ah hs vs x9 x10) := ⟨_, rfl⟩
              obtain ⟨poor, poor_is⟩ : ∃ b, Hid (b = lacksB (decide (ki = x8)) jl al hs vs x9 x10) := ⟨_, rfl⟩
              obtain ⟨bare, bare_is⟩ : ∃ b, Hid (b = lacksB (decide (ki = x8)) jl al [] [] x9 x10) := ⟨_, rfl⟩
              have law1 : Hid (rich = true → poor = true) := by rw [rich_is.out, poor_is.out]; exact lacks_rp hjj haa
              have law2 : Hid (poor = true → bare = true) := by rw [poor_is.out, bare_is.out]; exact lacks_pb
              obtain ⟨w4, rfl⟩ : ∃ w4, w4 = wc := ⟨_, rfl⟩
              go_upto_region 20 with fail
              go_cut [32] (fun r wz => r = .bool rich ∧ Hid (Boxes wz w3.heap.size n a x8 ki x9 x10) ∧ Hid (Rd wz ho1 hs) ∧ Hid (Rd wz vo1 vs) ∧ Hid (Below w.heap.size w wz))
              case first =>
                obtain ⟨⟨c0, c1, c2⟩, ⟨c3, c4, c5⟩, c6, c7, c8, c9, c10, c11, c12, c13, c14, c15⟩ := Boxes.cells hBx.out
                go_region_held3 (fun w' => (w'.cell? ⟨w3.heap.size, 0, none⟩ = some (.string n) ∧ w'.cell? ⟨w3.heap.size, 1, none⟩ = some (.string a) ∧ w'.cell? ⟨w3.heap.size, 2, none⟩ = some (.int .u64 x8)) ∧ (w'.cell? ⟨w3.heap.size + 1, 0, none⟩ = some (.string n) ∧ w'.cell? ⟨w3.heap.size + 1, 1, none⟩ = some (.string a) ∧ w'.cell? ⟨w3.heap.size + 1, 2, none⟩ = some (.int .u64 ki)) ∧ (w'.cell? ⟨w3.heap.size + 1 + 1, 0, none⟩ = some (.string n) ∧ w'.cell? ⟨w3.heap.size + 1 + 1, 1, none⟩ = some (.string a) ∧ w'.cell? ⟨w3.heap.size + 1 + 1, 2, none⟩ = some (.int .u64 x8) ∧ w'.cell? ⟨w3.heap.size + 1 + 1, 3, none⟩ = some (.int .u64 x9) ∧ w'.cell? ⟨w3.heap.size + 1 + 1, 4, none⟩ = some (.int .u64 x10) ∧ w'.cell? ⟨w3.heap.size + 1 + 1, 5, none⟩ = some (.int .u64 0) ∧ w'.cell? ⟨w3.heap.size + 1 + 1, 6, none⟩ = some (.slice none 0 0) ∧ w'.cell? ⟨w3.heap.size + 1 + 1, 7, none⟩ = some (.slice none 0 0) ∧ w'.cell? ⟨w3.heap.size + 1 + 1, 8, none⟩ = some (.int .u64 0) ∧ w'.cell? ⟨w3.heap.size + 1 + 1, 9, none⟩ = some (.slice none 0 0))) (go_keep) (first | (go_at_call 22; refine (digest_any jh n a ki ah ho1 hl hc1 vo1 vl vc1 _ h3 h4 hki).mono ?_; rintro e w5 ⟨bd, rfl, hD, hb5⟩; have hb45 := (Below.refl _ w4).drew.trans hb5; have B5 := Boxes.below hBx.out hb45; obtain ⟨⟨d0, d1, d2⟩, ⟨d3, d4, d5⟩, d6, d7, d8, d9, d10, d11, d12, d13, d14, d15⟩ := Boxes.cells B5) | (go_at_call 23; refine (zzlacks_any bd jh n a ki ah ho1 hl hc1 vo1 vl vc1 hs vs n a x8 x9 x10 _ h3 h4 hki h3 h4 h8 hD hhl hvl (by omega) (by omega) (hh2.out.below hb45) (hv2.out.below hb45)).mono ?_; rintro e w6 ⟨rfl, hb6⟩; clear d0 d1 d2 d3 d4 d5 d6 d7 d8 d9 d10 d11 d12 d13 d14 d15; have B6 := Boxes.below B5 hb6; obtain ⟨⟨d0, d1, d2⟩, ⟨d3, d4, d5⟩, d6, d7, d8, d9, d10, d11, d12, d13, d14, d15⟩ := Boxes.cells B6))
                go_wp2
                go_meet
                case rel => exact ⟨by first | (rw [rich_is.out]; done) | (rw [rich_is.out]; simp), B6, (hh2.out.below hb45).below hb6, (hv2.out.below hb45).below hb6, (hbz.out.trans (hb45.mono hbz.out.size)).trans (hb6.mono (Nat.le_trans hbz.out.size hb45.size))⟩
              case rest =>
                clear hBx hh2 hv2 hbz
                obtain ⟨rfl, hBx, hh2, hv2, hbz⟩ := hcut
                obtain ⟨w7, rfl⟩ : ∃ w7, w7 = wc := ⟨_, rfl⟩
                go_upto_region 21 with fail
                go_cut [33] (fun r wz => r = .bool poor ∧ Hid (Boxes wz w3.heap.size n a x8 ki x9 x10) ∧ Hid (Rd wz ho1 hs) ∧ Hid (Rd wz vo1 vs) ∧ Hid (Below w.heap.size w wz))
                case first =>
                  obtain ⟨⟨c0, c1, c2⟩, ⟨c3, c4, c5⟩, c6, c7, c8, c9, c10, c11, c12, c13, c14, c15⟩ := Boxes.cells hBx.out
                  go_region_held3 (fun w' => (w'.cell? ⟨w3.heap.size, 0, none⟩ = some (.string n) ∧ w'.cell? ⟨w3.heap.size, 1, none⟩ = some (.string a) ∧ w'.cell? ⟨w3.heap.size, 2, none⟩ = some (.int .u64 x8)) ∧ (w'.cell? ⟨w3.heap.size + 1, 0, none⟩ = some (.string n) ∧ w'.cell? ⟨w3.heap.size + 1, 1, none⟩ = some (.string a) ∧ w'.cell? ⟨w3.heap.size + 1, 2, none⟩ = some (.int .u64 ki)) ∧ (w'.cell? ⟨w3.heap.size + 1 + 1, 0, none⟩ = some (.string n) ∧ w'.cell? ⟨w3.heap.size + 1 + 1, 1, none⟩ = some (.string a) ∧ w'.cell? ⟨w3.heap.size + 1 + 1, 2, none⟩ = some (.int .u64 x8) ∧ w'.cell? ⟨w3.heap.size + 1 + 1, 3, none⟩ = some (.int .u64 x9) ∧ w'.cell? ⟨w3.heap.size + 1 + 1, 4, none⟩ = some (.int .u64 x10) ∧ w'.cell? ⟨w3.heap.size + 1 + 1, 5, none⟩ = some (.int .u64 0) ∧ w'.cell? ⟨w3.heap.size + 1 + 1, 6, none⟩ = some (.slice none 0 0) ∧ w'.cell? ⟨w3.heap.size + 1 + 1, 7, none⟩ = some (.slice none 0 0) ∧ w'.cell? ⟨w3.heap.size + 1 + 1, 8, none⟩ = some (.int .u64 0) ∧ w'.cell? ⟨w3.heap.size + 1 + 1, 9, none⟩ = some (.slice none 0 0))) (go_keep) (first | (go_at_call 22; refine (digest_any jl n a ki al ho1 hl hc1 vo1 vl vc1 _ h3 h4 hki).mono ?_; rintro e w5 ⟨bd, rfl, hD, hb5⟩; have hb45 := (Below.refl _ w7).drew.trans hb5; have B5 := Boxes.below hBx.out hb45; obtain ⟨⟨d0, d1, d2⟩, ⟨d3, d4, d5⟩, d6, d7, d8, d9, d10, d11, d12, d13, d14, d15⟩ := Boxes.cells B5) | (go_at_call 23; refine (zzlacks_any bd jl n a ki al ho1 hl hc1 vo1 vl vc1 hs vs n a x8 x9 x10 _ h3 h4 hki h3 h4 h8 hD hhl hvl (by omega) (by omega) (hh2.out.below hb45) (hv2.out.below hb45)).mono ?_; rintro e w6 ⟨rfl, hb6⟩; clear d0 d1 d2 d3 d4 d5 d6 d7 d8 d9 d10 d11 d12 d13 d14 d15; have B6 := Boxes.below B5 hb6; obtain ⟨⟨d0, d1, d2⟩, ⟨d3, d4, d5⟩, d6, d7, d8, d9, d10, d11, d12, d13, d14, d15⟩ := Boxes.cells B6))
                  go_wp2
                  go_meet
                  case rel => exact ⟨by first | (rw [poor_is.out]; done) | (rw [poor_is.out]; simp), B6, (hh2.out.below hb45).below hb6, (hv2.out.below hb45).below hb6, (hbz.out.trans (hb45.mono hbz.out.size)).trans (hb6.mono (Nat.le_trans hbz.out.size hb45.size))⟩
                case rest =>
                  clear hBx hh2 hv2 hbz
                  obtain ⟨rfl, hBx, hh2, hv2, hbz⟩ := hcut
                  obtain ⟨w8, rfl⟩ : ∃ w8, w8 = wc := ⟨_, rfl⟩
                  go_upto_region 22 with fail
                  go_cut [34] (fun r wz => r = .bool bare ∧ Hid (Boxes wz w3.heap.size n a x8 ki x9 x10) ∧ Hid (Rd wz ho1 hs) ∧ Hid (Rd wz vo1 vs) ∧ Hid (Below w.heap.size w wz))
                  case first =>
                    obtain ⟨⟨c0, c1, c2⟩, ⟨c3, c4, c5⟩, c6, c7, c8, c9, c10, c11, c12, c13, c14, c15⟩ := Boxes.cells hBx.out
                    go_region_held3 (fun w' => (w'.cell? ⟨w3.heap.size, 0, none⟩ = some (.string n) ∧ w'.cell? ⟨w3.heap.size, 1, none⟩ = some (.string a) ∧ w'.cell? ⟨w3.heap.size, 2, none⟩ = some (.int .u64 x8)) ∧ (w'.cell? ⟨w3.heap.size + 1, 0, none⟩ = some (.string n) ∧ w'.cell? ⟨w3.heap.size + 1, 1, none⟩ = some (.string a) ∧ w'.cell? ⟨w3.heap.size + 1, 2, none⟩ = some (.int .u64 ki)) ∧ (w'.cell? ⟨w3.heap.size + 1 + 1, 0, none⟩ = some (.string n) ∧ w'.cell? ⟨w3.heap.size + 1 + 1, 1, none⟩ = some (.string a) ∧ w'.cell? ⟨w3.heap.size + 1 + 1, 2, none⟩ = some (.int .u64 x8) ∧ w'.cell? ⟨w3.heap.size + 1 + 1, 3, none⟩ = some (.int .u64 x9) ∧ w'.cell? ⟨w3.heap.size + 1 + 1, 4, none⟩ = some (.int .u64 x10) ∧ w'.cell? ⟨w3.heap.size + 1 + 1, 5, none⟩ = some (.int .u64 0) ∧ w'.cell? ⟨w3.heap.size + 1 + 1, 6, none⟩ = some (.slice none 0 0) ∧ w'.cell? ⟨w3.heap.size + 1 + 1, 7, none⟩ = some (.slice none 0 0) ∧ w'.cell? ⟨w3.heap.size + 1 + 1, 8, none⟩ = some (.int .u64 0) ∧ w'.cell? ⟨w3.heap.size + 1 + 1, 9, none⟩ = some (.slice none 0 0))) (go_keep) (first | (go_at_call 22; refine (digest_any jl n a ki al none 0 0 none 0 0 _ h3 h4 hki).mono ?_; rintro e w5 ⟨bd, rfl, hD, hb5⟩; have hb45 := (Below.refl _ w8).drew.trans hb5; have B5 := Boxes.below hBx.out hb45; obtain ⟨⟨d0, d1, d2⟩, ⟨d3, d4, d5⟩, d6, d7, d8, d9, d10, d11, d12, d13, d14, d15⟩ := Boxes.cells B5) | (go_at_call 23; refine (zzlacks_any bd jl n a ki al none 0 0 none 0 0 [] [] n a x8 x9 x10 _ h3 h4 hki h3 h4 h8 hD rfl rfl (by omega) (by omega) (Rd.nil _ _) (Rd.nil _ _)).mono ?_; rintro e w6 ⟨rfl, hb6⟩; clear d0 d1 d2 d3 d4 d5 d6 d7 d8 d9 d10 d11 d12 d13 d14 d15; have B6 := Boxes.below B5 hb6; obtain ⟨⟨d0, d1, d2⟩, ⟨d3, d4, d5⟩, d6, d7, d8, d9, d10, d11, d12, d13, d14, d15⟩ := Boxes.cells B6))
                    go_wp2
                    go_meet
                    case rel => exact ⟨by first | (rw [bare_is.out]; done) | (rw [bare_is.out]; simp), B6, (hh2.out.below hb45).below hb6, (hv2.out.below hb45).below hb6, (hbz.out.trans (hb45.mono hbz.out.size)).trans (hb6.mono (Nat.le_trans hbz.out.size hb45.size))⟩
                  case rest =>
                    clear hBx hh2 hv2 hbz
                    obtain ⟨rfl, hBx, hh2, hv2, hbz⟩ := hcut
                    obtain ⟨w9, rfl⟩ : ∃ w9, w9 = wc := ⟨_, rfl⟩
                    obtain ⟨⟨c0, c1, c2⟩, ⟨c3, c4, c5⟩, c6, c7, c8, c9, c10, c11, c12, c13, c14, c15⟩ := Boxes.cells hBx.out
                    go_wp2_with fail
                    refine (zzlacks_nil n a x8 n a x8 x9 x10 _).mono ?_
                    rintro e w10 ⟨rfl, hb10⟩
                    have hfin : Below w.heap.size w w10 := hbz.out.trans (hb10.mono hbz.out.size)
                    clear c0 c1 c2 c3 c4 c5 c6 c7 c8 c9 c10 c11 c12 c13 c14 c15
                    cases rich <;> cases poor <;> cases bare
                    all_goals first | (exact absurd (law1.out rfl) Bool.false_ne_true) | (exact absurd (law2.out rfl) Bool.false_ne_true) | (go_wp2; go_ret; exact ⟨rfl, hfin⟩)
    · go_enter Try.func8, Try.ntmps8
      go_wp2_with fail
      refine (bytes26_yes x0 x1 x2 x3 ho hl hc vo vl vc n a x8 x9 x10 x11 _ hb).mono ?_
      rintro e w' ⟨rfl, rfl⟩
      go_wp2
      all_goals
        go_ret
        exact ⟨rfl, Below.refl _ _⟩
  · go_enter Try.func8, Try.ntmps8
    go_wp2_with fail
    refine (bytes26_no x0 x1 x2 x3 ho hl hc vo vl vc n a x8 x9 x10 x11 _ hb h1 h2 h3 h4).mono ?_
    rintro e w' ⟨rfl, rfl⟩
    go_wp2
    go_ret
    exact ⟨rfl, Below.refl _ _⟩
end Go.Proofs.Qxb6602992a
