/-
  The slices of a walk: 'Rd w ao zs': the slice value at 'ao' (whatever its capacity) reads as the numbers zs in the world w.
-/
import Derived.Test.Qxb6602992aProg
import Derived.WalkKit
import Derived.WalkSpells
import Derived.WalkLawsBesides
import Derived.RegionTactic
namespace Go.Proofs.Qxb6602992a
open Go.RowKit

/-- A slice at 'ao' of the length of zs reads as zs in w. -/
def Rd (w : World) (ao : Option Addr) (zs : List Int) : Prop :=
  ∀ i, i < zs.length → ∃ b off, ao = some ⟨b, off, none⟩ ∧ b < w.heap.size ∧ w.cell? ⟨b, off + i, none⟩ = some (.int .u64 (zs.getD i 0))

theorem Rd.below {w w' : World} {ao : Option Addr} {zs : List Int} (h : Rd w ao zs) (hb : Below w.heap.size w w') : Rd w' ao zs := by
  intro i hi
  obtain ⟨b, off, h1, h2, h3⟩ := h i hi
  exact ⟨b, off, h1, Nat.lt_of_lt_of_le h2 hb.size, (hb.cell (p := ⟨b, off + i, none⟩) h2).trans h3⟩

theorem Rd.nil (w : World) (ao : Option Addr) : Rd w ao [] := fun i hi => absurd hi (by simp)

theorem Rd.drewN {w : World} {ao : Option Addr} {zs : List Int} (h : Rd w ao zs) (n : Nat) : Rd (w.drewN n) ao zs := by
  intro i hi
  obtain ⟨b, off, h1, h2, h3⟩ := h i hi
  exact ⟨b, off, h1, by simpa using h2, by simpa using h3⟩

theorem drop_getD {zs : List Int} {i : Nat} (hi : i < zs.length) : zs.drop i = zs.getD i 0 :: zs.drop (i + 1) := by
  rw [List.drop_eq_getElem_cons hi, List.getD_eq_getElem?_getD, List.getElem?_eq_getElem hi]; rfl

theorem Rd.at {w : World} {ao : Option Addr} {zs : List Int} (h : Rd w ao zs) {i : Nat} (hi : i < zs.length) :
    ∃ b off z, ao = some ⟨b, off, none⟩ ∧ b < w.heap.size ∧ w.cell? ⟨b, off + i, none⟩ = some (.int .u64 z) ∧ Hid (zs.drop i = z :: zs.drop (i + 1)) := by
  obtain ⟨b, off, h1, h2, h3⟩ := h i hi
  exact ⟨b, off, _, h1, h2, h3, drop_getD hi⟩

theorem Rd.cell {w : World} {b off : Nat} {zs : List Int} (h : Rd w (some ⟨b, off, none⟩) zs) {i : Nat} (hi : i < zs.length) :
    ∃ z, w.cell? ⟨b, off + i, none⟩ = some (.int .u64 z) ∧ Hid (zs.drop i = z :: zs.drop (i + 1)) := by
  obtain ⟨b', off', h1, h2, h3⟩ := h i hi
  simp only [Option.some.injEq, Addr.mk.injEq, and_true] at h1
  obtain ⟨rfl, rfl⟩ := h1
  exact ⟨_, h3, drop_getD hi⟩

/-- Numbers under their kind's bounds. -/
def Wf (zs : List Int) : Prop := ∀ z ∈ zs, 0 ≤ z ∧ z ≤ 18446744073709551615

theorem Wf.head {zs r : List Int} {k : Nat} {z : Int} (h : Wf zs) (e : Hid (zs.drop k = z :: r)) : 0 ≤ z ∧ z ≤ 18446744073709551615 :=
  h z (List.mem_of_mem_drop (i := k) (by rw [e.out]; simp))

theorem ret_bool {a b : Bool} (h : a = b) : Ending.returned (.bool a) = .returned (.bool b) := by rw [h]

/-! ### b1Listed -/
def lst (x : Int) : List Int → Bool
  | [] => false
  | z :: zs => if z == x then true else lst x zs
theorem lst_mem (x : Int) (zs : List Int) : lst x zs = true ↔ x ∈ zs := by
  induction zs with
  | nil => simp [lst]
  | cons z zs ih =>
    simp only [lst, List.mem_cons]
    by_cases h : z = x
    · simp [h]
    · simp [h, ih, Ne.symm h]
theorem lst_hit {x z : Int} {l r : List Int} (e : Hid (l = z :: r)) (h : (z == x) = true) : lst x l = true := by rw [e.out, lst, if_pos h]
theorem lst_miss {x z : Int} {l r : List Int} (e : Hid (l = z :: r)) (h : (z == x) = false) : lst x l = lst x r := by rw [e.out, lst, if_neg (by simp [h])]
theorem lst_end {x : Int} {zs : List Int} {k : Nat} (hk : ¬ k < zs.length) : lst x (zs.drop k) = false := by
  rw [List.drop_of_length_le (by omega)]; rfl

set_option maxHeartbeats 400000 in
theorem listed_any (ao : Option Addr) (len cap : Nat) (zs : List Int) (x : Int) (w : World) (hlen : zs.length = len) (hl : len ≤ 1048576) (h : Rd w ao zs) :
    Calls Try.prog 20 #[.slice ao len cap, .int .u64 x] w fun e w' => e = .returned (.bool (lst x zs)) ∧ w = w' := by
  go_enter Try.func20, Try.ntmps20
  go_wp2
  go_loop [5] (fun i => ∃ k : Nat, k ≤ len ∧ i = .int .i64 k ∧ Hid (lst x (zs.drop k) = lst x zs)) (fun i => len - (intOf i).toNat)
  case atStart => exact ⟨0, Nat.zero_le _, rfl, rfl⟩
  case round =>
    obtain ⟨k, hk, rfl, hno⟩ := hrel
    by_cases hlt : k < len
    · obtain ⟨b, off, z, rfl, hb, hc, hd⟩ := h.at (i := k) (by omega)
      go_wp2
      · have ht : (z == x) = true := by assumption
        go_ret
        exact ⟨ret_bool ((lst_hit hd ht).symm.trans hno.out), rfl⟩
      · have ht : (z == x) = false := by assumption
        go_round
        case rel => exact ⟨k + 1, by omega, by go_num, ((lst_miss hd ht).symm.trans hno.out)⟩
        case measure => simp [intOf]; omega
    · go_wp2
      go_ret
      exact ⟨ret_bool ((lst_end (by omega)).symm.trans hno.out), rfl⟩

/-! ### b1StrictlyIncreasing -/
def incr : List Int → Bool
  | [] => true
  | [_] => true
  | a :: b :: r => if b ≤ a then false else incr (b :: r)
theorem incr_end {zs : List Int} {k : Nat} (hk : zs.length ≤ k + 1) : incr (zs.drop k) = true := by
  have : (zs.drop k).length ≤ 1 := by simp; omega
  match h : zs.drop k with
  | [] => rfl
  | [_] => rfl
  | _ :: _ :: _ => rw [h] at this; simp at this
theorem incr_no {a b : Int} {l r s : List Int} (e : Hid (l = a :: r)) (e' : Hid (r = b :: s)) (h : b ≤ a) : incr l = false := by
  rw [e.out, e'.out, incr, if_pos h]
theorem incr_yes {a b : Int} {l r s : List Int} (e : Hid (l = a :: r)) (e' : Hid (r = b :: s)) (h : a < b) : incr l = incr r := by
  rw [e.out, e'.out, incr, if_neg (by omega)]

set_option maxHeartbeats 400000 in
theorem incr_any (ao : Option Addr) (len cap : Nat) (zs : List Int) (w : World) (hlen : zs.length = len) (hl : len ≤ 1048576) (h : Rd w ao zs) :
    Calls Try.prog 13 #[.slice ao len cap] w fun e w' => e = .returned (.bool (incr zs)) ∧ ∃ n, w' = w.drewN n := by
  go_enter Try.func13, Try.ntmps13
  go_wp2
  go_loopw [3] (fun i wr => ∃ k : Nat, k ≤ len ∧ i = .int .i64 k ∧ Hid (incr (zs.drop k) = incr zs) ∧ ∃ n, wr = w.drewN n) (fun i _ => len - (intOf i).toNat)
  case atStart => exact ⟨0, Nat.zero_le _, rfl, rfl, 0, rfl⟩
  case round =>
    obtain ⟨k, hk, rfl, hno, n, rfl⟩ := hrel
    by_cases hlt : k + 1 < len
    · obtain ⟨b, off, z, rfl, hb, hc, hd⟩ := h.at (i := k) (by omega)
      obtain ⟨z', hc', hd'⟩ := h.cell (i := k + 1) (by omega)
      go_wp2
      go_region
      go_wp2
      · have ht : z' ≤ z := by assumption
        go_ret
        exact ⟨ret_bool ((incr_no hd hd' ht).symm.trans hno.out), _, rfl⟩
      · have ht : z < z' := by assumption
        go_roundw
        case rel => exact ⟨k + 1, by omega, by go_num, ((incr_yes hd hd' ht).symm.trans hno.out), _, rfl⟩
        case measure => simp [intOf]; omega
    · go_wp2
      go_ret
      exact ⟨ret_bool ((incr_end (by omega)).symm.trans hno.out), n, rfl⟩

/-! ### b1Clone -/
theorem Try.info23 : (Try.prog.info? 23).map (fun i => (i.zero, i.size, i.bytes)) = some (some (.int .u64 0), 1, 8) := by kernel_rfl

set_option maxHeartbeats 400000 in
theorem clone_nil (w : World) : Calls Try.prog 14 #[.slice none 0 0] w fun e w' => e = .returned (.slice none 0 0) ∧ w = w' := by
  have hn := fun wx a n c => Lib.run_eql_slice_nil (P := Try.prog) wx 22 23 a n c 0 0 Try.underlying22
  go_enter Try.func14, Try.ntmps14
  go_wp2
  go_ret
  exact ⟨rfl, rfl⟩

theorem clone_step {xs : List Value} {zs : List Int} {k : Nat} {z : Int} (h : Hid (xs.take k = (zs.take k).map (Value.int .u64))) (e : Hid (zs.drop k = z :: zs.drop (k + 1))) (hk : k < xs.length) :
    (xs.set k (.int .u64 z)).take (k + 1) = (zs.take (k + 1)).map (Value.int .u64) := by
  have hz : zs.take (k + 1) = zs.take k ++ [z] := by
    have : zs[k]? = some z := by rw [← List.head?_drop, e.out]; rfl
    rw [List.take_add_one, this]; rfl
  rw [hz, List.map_append, ← h.out, List.take_set, List.take_add_one, List.getElem?_eq_getElem hk]
  have hl : (xs.take k).length = k := by simp; omega
  rw [List.set_append_right _ _ (by omega), hl]
  simp

set_option maxHeartbeats 400000 in
theorem clone_some (a : Addr) (len cap : Nat) (zs : List Int) (w : World) (hlen : zs.length = len) (hl : len ≤ 1048576) (h : Rd w (some a) zs) :
    Calls Try.prog 14 #[.slice (some a) len cap] w fun e w' => e = .returned (.slice (some ⟨w.heap.size, 0, none⟩) len len) ∧ w'.ownsRow w.heap.size 23 1 (.slice (some ⟨w.heap.size, 0, none⟩) len len) len (zs.map (Value.int .u64)) ∧ Below w.heap.size w w' := by
  have hn := fun wx a n c => Lib.run_eql_slice_nil (P := Try.prog) wx 22 23 a n c 0 0 Try.underlying22
  obtain ⟨i0, hi, hz0, hz1, hz2⟩ := info_parts Try.info23
  go_enter Try.func14, Try.ntmps14
  go_wp2_with (at_make; refine wpList_make_full _ rfl _ _ 22 rfl w.heap.size 23 i0 (.int .u64 0) 1 Try.underlying22 hi hz0 hz1 _ _ _ _ len rfl rfl (by omega) (by omega) ?b2 ?b3 (Nat.le_refl _) ?_)
  case b2 => rw [hz2]; omega
  case b3 => unfold maxLen; omega
  intro w0 hown0 hgrow0
  go_wp2
  go_loopw [4] (fun i wr => ∃ (k : Nat) (xs : List Value), k ≤ len ∧ i = .int .i64 k ∧ wr.ownsRow w.heap.size 23 1 (.slice (some ⟨w.heap.size, 0, none⟩) len len) len xs ∧ Hid (xs.take k = (zs.take k).map (Value.int .u64)) ∧ Below w.heap.size w wr) (fun i _ => len - (intOf i).toNat)
  case atStart => exact ⟨0, _, Nat.zero_le _, rfl, hown0, by simp [Hid], (Below.refl _ _).grown hgrow0 (Nat.le_refl _) (fun k h => by cases h)⟩
  case round =>
    obtain ⟨k, xs, hk, rfl, hown, hx, hbel⟩ := hrel
    by_cases hlt : k < len
    · obtain ⟨b, off, z, ea, hb, hc0, hd⟩ := h.at (i := k) (by omega)
      obtain rfl := Option.some.inj ea
      have hc : wr.cell? ⟨b, off + k, none⟩ = some (.int .u64 z) := (hbel.cell (by exact hb)).trans hc0
      have hxl : k < xs.length := by have := hown.1; omega
      have hcd : wr.cell? ⟨w.heap.size, k, none⟩ = some xs[k] := by rw [hown.cellAt k (by omega), List.getElem?_eq_getElem hxl]
      have hfd : wr.frozen? ⟨w.heap.size, k, none⟩ = false := hown.frozenAt k
      obtain ⟨R1, R2⟩ := hown.stored k (.int .u64 z)
      have R3 : Hid ((xs.set k (.int .u64 z)).take (k + 1) = (zs.take (k + 1)).map (Value.int .u64)) := clone_step hx hd hxl
      clear hown h hlen
      go_wp2
      go_roundw
      case rel => exact ⟨k + 1, _, by omega, by go_num, R1, R3, hbel.grown R2 hbel.size (fun k hk => by cases hk; exact Nat.le_refl _)⟩
      case measure => simp [intOf]; omega
    · have hxl : xs.length = len := by have := hown.1; omega
      have hkl : k = len := by omega
      have hxs : xs = zs.map (Value.int .u64) := by
        have := hx.out
        rwa [List.take_of_length_le (by omega), List.take_of_length_le (by omega)] at this
      go_wp2
      go_ret
      exact ⟨rfl, hxs ▸ hown, hbel⟩

/-- What is owned reads as numbers. -/
theorem Rd.of_owns {w : World} {base : Nat} {v : Value} {zs : List Int} (h : w.ownsRow base 23 1 v zs.length (zs.map (Value.int .u64))) :
    ∃ ao cap, v = .slice ao zs.length cap ∧ Rd w ao zs ∧ (ao = none → zs = []) := by
  have h0 := h
  rcases h.2 with ⟨hv, hn⟩ | ⟨g, cap, cur, hv, hb, hh, hnc, hcm, hcs, ht⟩
  · refine ⟨none, 0, by rw [hv, hn], ?_, fun _ => List.eq_nil_of_length_eq_zero hn⟩
    intro i hi; omega
  · subst hv
    refine ⟨some ⟨g, 0, none⟩, cap, rfl, ?_, fun h => by cases h⟩
    intro i hi
    refine ⟨g, 0, rfl, ?_, ?_⟩
    · exact (h0.lt g rfl).2
    · have := h0.cellAt i (by omega)
      rw [Nat.zero_add, this]
      simp [hi]

theorem clone_any (ao : Option Addr) (len cap : Nat) (zs : List Int) (w : World) (hlen : zs.length = len) (hl : len ≤ 1048576) (h : Rd w ao zs) (hnil : ao = none → len = 0 ∧ cap = 0) :
    Calls Try.prog 14 #[.slice ao len cap] w fun e w' => ∃ ao' cap', e = .returned (.slice ao' len cap') ∧ Rd w' ao' zs ∧ Below w.heap.size w w' := by
  cases ao with
  | none =>
    obtain ⟨rfl, rfl⟩ := hnil rfl
    refine (clone_nil w).mono ?_
    rintro e w' ⟨rfl, rfl⟩
    exact ⟨none, 0, rfl, h, Below.refl _ _⟩
  | some a =>
    refine (clone_some a len cap zs w hlen hl h).mono ?_
    rintro e w' ⟨rfl, hown, hb⟩
    obtain ⟨ao', cap', hv, hr, _⟩ := Rd.of_owns (by rw [← hlen] at hown; exact hown)
    rw [hlen] at hv
    exact ⟨ao', cap', by rw [← hv], hr, hb⟩

end Go.Proofs.Qxb6602992a
