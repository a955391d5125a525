/-
  'runs' of reliable.go: what it computes, and the walk.
-/
import Derived.Test.Qxb6602992aSl
namespace Go.Proofs.Qxb6602992a
open Go.RowKit

/-- The sum by one, as a uint64 wraps. -/
def up (z : Int) : Int := IntKind.u64.wrap (z + 1)
/-- The last number of a list (0 for none). -/
def lastOf (out : List Int) : Int := out.getD (out.length - 1) 0

def runsF (frm : Int) : List Int → List Int → List Int
  | out, [] => out
  | out, s :: ss =>
    if s < frm then runsF frm out ss
    else if 0 < out.length ∧ up (lastOf out) = s then runsF frm (out.set (out.length - 1) s) ss
    else if out.length = 512 then out
    else runsF frm (out ++ [s, s]) ss

theorem runs_skip {frm z : Int} {out l r : List Int} (e : Hid (l = z :: r)) (h : z < frm) : runsF frm out l = runsF frm out r := by rw [e.out, runsF, if_pos h]
theorem runs_last {frm z : Int} {out l r : List Int} (e : Hid (l = z :: r)) (h : ¬ z < frm) (h1 : 0 < out.length) (h2 : up (lastOf out) = z) : runsF frm out l = runsF frm (out.set (out.length - 1) z) r := by
  rw [e.out, runsF, if_neg h, if_pos ⟨h1, h2⟩]
theorem runs_stop {frm z : Int} {out l r : List Int} (e : Hid (l = z :: r)) (h : ¬ z < frm) (h1 : ¬ (0 < out.length ∧ up (lastOf out) = z)) (h2 : out.length = 512) : runsF frm out l = out := by
  rw [e.out, runsF, if_neg h, if_neg h1, if_pos h2]
theorem runs_app {frm z : Int} {out l r : List Int} (e : Hid (l = z :: r)) (h : ¬ z < frm) (h1 : ¬ (0 < out.length ∧ up (lastOf out) = z)) (h2 : ¬ out.length = 512) : runsF frm out l = runsF frm (out ++ [z, z]) r := by
  rw [e.out, runsF, if_neg h, if_neg h1, if_neg h2]
theorem runs_end {frm : Int} {out zs : List Int} {k : Nat} (hk : ¬ k < zs.length) : runsF frm out (zs.drop k) = out := by
  rw [List.drop_of_length_le (by omega), runsF]

theorem wf_nil : Wf [] := fun z hz => by simp at hz
theorem wf_two {out : List Int} {z : Int} (h : Wf out) (hz : 0 ≤ z ∧ z ≤ 18446744073709551615) : Wf (out ++ [z, z]) := by
  intro x hx
  rcases List.mem_append.1 hx with hx | hx
  · exact h x hx
  · simp at hx; subst hx; exact hz
theorem wf_set {out : List Int} {z : Int} {i : Nat} (h : Wf out) (hz : 0 ≤ z ∧ z ≤ 18446744073709551615) : Wf (out.set i z) := by
  intro x hx
  rcases List.mem_or_eq_of_mem_set hx with hx | hx
  · exact h x hx
  · subst hx; exact hz
theorem cells_two_new (w : World) (x y : Value) (t : TypeId) : ∀ j u, [x, y][j]? = some u → (w.alloc (.cells #[x, y] t)).cell? ((⟨w.heap.size, 0, none⟩ : Addr).add j) = some u := by
  intro j u hj
  match j, hj with
  | 0, hj => simp at hj; subst hj; simp [Addr.add]
  | 1, hj => simp at hj; subst hj; simp [Addr.add]
theorem own_set {w : World} {base : Nat} {v : Value} {out : List Int} {z : Int} (h : w.ownsRow base 23 1 v out.length ((out.map (Value.int .u64)).set (out.length - 1) (.int .u64 z))) :
    w.ownsRow base 23 1 v out.length ((out.set (out.length - 1) z).map (Value.int .u64)) := by
  rw [List.map_set]; exact h

set_option maxHeartbeats 1000000 in
theorem runs_any (ao : Option Addr) (len cap : Nat) (zs : List Int) (frm : Int) (w : World) (hlen : zs.length = len) (hl : len ≤ 1048576) (h : Rd w ao zs) (hwf : Wf zs) :
    Calls Try.prog 36 #[.slice ao len cap, .int .u64 frm] w fun e w' => ∃ v, e = .returned v ∧ w'.ownsRow w.heap.size 23 1 v (runsF frm [] zs).length ((runsF frm [] zs).map (Value.int .u64)) ∧ (runsF frm [] zs = [] → v = .slice none 0 0) ∧ Below w.heap.size w w' := by
  obtain ⟨i0, hi, hz0, hz1, hz2⟩ := info_parts Try.info23
  go_enter Try.func36, Try.ntmps36
  go_wp2
  go_loopw [5, 10] (fun v i wr => ∃ (k : Nat) (out : List Int), k ≤ len ∧ i = .int .i64 k ∧ wr.ownsRow w.heap.size 23 1 v out.length (out.map (Value.int .u64)) ∧ Hid (runsF frm out (zs.drop k) = runsF frm [] zs) ∧ Hid (out = [] → v = .slice none 0 0) ∧ Wf out ∧ out.length ≤ 2 * k ∧ Below w.heap.size w wr) (fun _ i _ => len - (intOf i).toNat)
  case atStart => exact ⟨0, [], Nat.zero_le _, rfl, World.ownsRow_nil _ _ _ _, rfl, fun _ => rfl, fun z hz => by simp at hz, Nat.zero_le _, Below.refl _ _⟩
  case round =>
    obtain ⟨k, out, hk, rfl, hown, hR, hnil, hwo, hol, hbel⟩ := hrel
    by_cases hlt : k < len
    · obtain ⟨b, off, z, rfl, hb, hc0, hd⟩ := h.at (i := k) (by omega)
      have hc : wr.cell? ⟨b, off + k, none⟩ = some (.int .u64 z) := (hbel.cell (by exact hb)).trans hc0
      have hz := hwf.head hd
      by_cases hf : z < frm
      · go_wp2
        go_roundw
        case rel => exact ⟨k + 1, out, by omega, by go_num, hown, (runs_skip hd hf).symm.trans hR.out, hnil, hwo, by omega, hbel⟩
        case measure => simp [intOf]; omega
      · by_cases ho : out = []
        · subst ho
          have hv := hnil.out rfl
          subst hv
          have R1 := runs_app (out := []) hd hf (by simp) (by simp)
          go_wp2_with (at_builtin; refine wpList_append_own _ rfl _ _ 22 rfl w.heap.size 23 i0 (.int .u64 0) 1 8 Try.underlying22 hi hz0 hz1 hz2 rfl (by decide) (.slice none 0 0) _ _ rfl (hown.alloc _) ⟨wr.heap.size, 0, none⟩ 2 2 [.int .u64 z, .int .u64 z] rfl rfl (cells_two_new _ _ _ _) (ints_oneCell _ [z, z]) (by unfold maxLen; simp) (by simp) (by have := hbel.size; simp; omega) ?_; intro v' w1 hown' hgrow hnn)
          have hB := (hbel.alloc hbel.size _).grown hgrow (by have := hbel.size; simp; omega) (fun j hj => by simp [Value.ownBlock] at hj)
          go_wp2
          go_roundw
          case rel => exact ⟨k + 1, [z, z], by omega, by go_num, hown', R1.symm.trans hR.out, fun h => by simp at h, wf_two (wf_nil) hz, (show 2 ≤ 2 * (k + 1) by omega), hB⟩
          case measure => simp [intOf]; omega
        · have hop : 0 < out.length := List.length_pos_iff.2 ho
          obtain ⟨g, cap', rfl, hg⟩ : ∃ g cap', u5 = Value.slice (some ⟨g, 0, none⟩) out.length cap' ∧ w.heap.size ≤ g := by
            rcases hown.2 with ⟨_, hn⟩ | ⟨g, cap', cur, hv, hg, _⟩
            · omega
            · exact ⟨g, cap', hv, hg⟩
          obtain ⟨y, hcy, hy⟩ : ∃ y, wr.cell? ⟨g, out.length - 1, none⟩ = some (.int .u64 y) ∧ Hid (y = lastOf out) := by
            refine ⟨lastOf out, ?_, rfl⟩
            rw [hown.cellAt (out.length - 1) (by omega), lastOf, List.getElem?_map, List.getD_eq_getElem?_getD, List.getElem?_eq_getElem (by omega)]; rfl
          have hfz : wr.frozen? ⟨g, out.length - 1, none⟩ = false := hown.frozenAt _
          have hgs : g < wr.heap.size := (hown.lt g rfl).2
          by_cases hu : (IntKind.u64.wrap (y + 1) == z) = true
          · obtain ⟨Q1, Q2⟩ := hown.stored (out.length - 1) (.int .u64 z)
            have R1 := runs_last hd hf hop (by rw [← hy.out]; simpa [up] using hu)
            have Q3 := own_set Q1
            have hB := hbel.grown Q2 hbel.size (fun j hj => by cases hj; exact hg)
            clear Q1 Q2 hown
            go_wp2
            go_roundw
            case rel => exact ⟨k + 1, _, by omega, by go_num, by simpa using Q3, R1.symm.trans hR.out, fun h => absurd (congrArg List.length h) (by simp; omega), wf_set hwo hz, by simp; omega, hB⟩
            case measure => simp [intOf]; omega
          · have hu' : (IntKind.u64.wrap (y + 1) == z) = false := by simpa using hu
            have hnu : ¬ (0 < out.length ∧ up (lastOf out) = z) := by rw [← hy.out]; intro h; exact hu (by simpa [up] using h.2)
            clear hu
            by_cases h5 : ((out.length : Int) == 512) = true
            · have R1 := runs_stop hd hf hnu (by have := eq_of_beq h5; omega)
              go_wp2
              go_ret
              have e1 : out = runsF frm [] zs := R1.symm.trans hR.out
              exact ⟨_, rfl, e1 ▸ hown, fun h => hnil.out (e1.trans h), hbel⟩
            · have h5' : ((out.length : Int) == 512) = false := by simpa using h5
              have R1 := runs_app hd hf hnu (by intro e; apply h5; rw [e]; rfl)
              clear h5
              go_wp2_with (at_builtin; refine wpList_append_own _ rfl _ _ 22 rfl w.heap.size 23 i0 (.int .u64 0) 1 8 Try.underlying22 hi hz0 hz1 hz2 rfl (by decide) (.slice (some ⟨g, 0, none⟩) out.length cap') _ _ rfl (hown.alloc _) ⟨wr.heap.size, 0, none⟩ 2 2 [.int .u64 z, .int .u64 z] rfl rfl (cells_two_new _ _ _ _) (ints_oneCell _ [z, z]) (by unfold maxLen; omega) (by omega) (by have := hbel.size; simp; omega) ?_; intro v' w1 hown' hgrow hnn)
              have hB := (hbel.alloc hbel.size _).grown hgrow (by have := hbel.size; simp; omega) (fun j hj => by simp [Value.ownBlock] at hj; omega)
              clear hown
              go_wp2
              go_roundw
              case rel => exact ⟨k + 1, out ++ [z, z], by omega, by go_num, by simpa using hown', R1.symm.trans hR.out, fun h => by simp at h, wf_two hwo hz, by simp; omega, hB⟩
              case measure => simp [intOf]; omega
    · go_wp2
      go_ret
      have e1 : out = runsF frm [] zs := (runs_end (by omega)).symm.trans hR.out
      exact ⟨_, rfl, e1 ▸ hown, fun h => hnil.out (e1.trans h), hbel⟩

set_option maxHeartbeats 400000 in
/-- ZZRuns: what is made reads as the runs; nil just where there is none. -/
theorem zzruns_any (ao : Option Addr) (len cap : Nat) (zs : List Int) (frm : Int) (w : World) (hlen : zs.length = len) (hl : len ≤ 1048576) (h : Rd w ao zs) (hwf : Wf zs) :
    Calls Try.prog 15 #[.slice ao len cap, .int .u64 frm] w fun e w' => ∃ ao' n' cap', e = .returned (.slice ao' n' cap') ∧ (runsF frm [] zs).length = n' ∧ Rd w' ao' (runsF frm [] zs) ∧ (ao'.isNone = decide (runsF frm [] zs = [])) ∧ Below w.heap.size w w' := by
  go_enter Try.func15, Try.ntmps15
  go_wp2_with (go_at_call 36; refine (runs_any ao len cap zs frm _ hlen hl h hwf).mono ?_; rintro e w' ⟨v, rfl, hown, hnil, hb⟩)
  obtain ⟨ao', cap', rfl, hr, hne⟩ := Rd.of_owns hown
  go_ret
  refine ⟨ao', _, cap', rfl, rfl, hr, ?_, hb⟩
  cases ao' with
  | none => simp [hne rfl]
  | some a =>
    by_cases hn : runsF frm [] zs = []
    · have := hnil hn; simp at this
    · simp [hn]

end Go.Proofs.Qxb6602992a
