/-
  The slices of strings of a walk: 'Rs w ao ss': the slice value at 'ao' (whatever its capacity) reads as the strings ss in the world w. The walks of zzIn, zzStrBytes and zzCloneStrings_rootg1.
-/
import Derived.Test.Qxb6003384aProg
import Derived.WalkKit
import Derived.WalkSpells
import Derived.WalkLawsBesides
import Derived.RegionTactic
namespace Go.Proofs.Qxb6003384a
open Go.RowKit

/-- A slice at 'ao' of the length of ss reads as ss in w. -/
def Rs (w : World) (ao : Option Addr) (ss : List ByteArray) : Prop :=
  ∀ i, i < ss.length → ∃ b off, ao = some ⟨b, off, none⟩ ∧ b < w.heap.size ∧ w.cell? ⟨b, off + i, none⟩ = some (.string (ss.getD i ByteArray.empty))

theorem Rs.below {w w' : World} {ao : Option Addr} {zs : List ByteArray} (h : Rs w ao zs) (hb : Below w.heap.size w w') : Rs w' ao zs := by
  intro i hi
  obtain ⟨b, off, h1, h2, h3⟩ := h i hi
  exact ⟨b, off, h1, Nat.lt_of_lt_of_le h2 hb.size, (hb.cell (p := ⟨b, off + i, none⟩) h2).trans h3⟩

theorem Rs.nil (w : World) (ao : Option Addr) : Rs w ao [] := fun i hi => absurd hi (by simp)

theorem drop_getS {zs : List ByteArray} {i : Nat} (hi : i < zs.length) : zs.drop i = zs.getD i ByteArray.empty :: zs.drop (i + 1) := by
  rw [List.drop_eq_getElem_cons hi, List.getD_eq_getElem?_getD, List.getElem?_eq_getElem hi]; rfl

theorem Rs.at {w : World} {ao : Option Addr} {zs : List ByteArray} (h : Rs w ao zs) {i : Nat} (hi : i < zs.length) :
    ∃ b off z, ao = some ⟨b, off, none⟩ ∧ b < w.heap.size ∧ w.cell? ⟨b, off + i, none⟩ = some (.string z) ∧ Hid (zs.drop i = z :: zs.drop (i + 1)) := by
  obtain ⟨b, off, h1, h2, h3⟩ := h i hi
  exact ⟨b, off, _, h1, h2, h3, drop_getS hi⟩

theorem ret_bool {a b : Bool} (h : a = b) : Ending.returned (.bool a) = .returned (.bool b) := by rw [h]
theorem ret_int {a b : Int} (h : a = b) : Ending.returned (.int .i64 a) = .returned (.int .i64 b) := by rw [h]

/-! ### zzIn -/
def inS (x : ByteArray) : List ByteArray → Bool
  | [] => false
  | z :: zs => if z.toList == x.toList then true else inS x zs
theorem inS_hit {x z : ByteArray} {l r : List ByteArray} (e : Hid (l = z :: r)) (h : (z.toList == x.toList) = true) : inS x l = true := by rw [e.out, inS, if_pos h]
theorem inS_miss {x z : ByteArray} {l r : List ByteArray} (e : Hid (l = z :: r)) (h : (z.toList == x.toList) = false) : inS x l = inS x r := by rw [e.out, inS, if_neg (by simp [h])]
theorem inS_end {x : ByteArray} {zs : List ByteArray} {k : Nat} (hk : ¬ k < zs.length) : inS x (zs.drop k) = false := by
  rw [List.drop_of_length_le (by omega)]; rfl

set_option maxHeartbeats 400000 in
theorem in_any (ao : Option Addr) (len cap : Nat) (zs : List ByteArray) (x : ByteArray) (w : World) (hlen : zs.length = len) (hl : len ≤ 1048576) (h : Rs w ao zs) :
    Calls Try.prog 10 #[.string x, .slice ao len cap] w fun e w' => e = .returned (.bool (inS x zs)) ∧ w = w' := by
  go_enter Try.func10, Try.ntmps10
  go_wp2
  go_loop [5] (fun i => ∃ k : Nat, k ≤ len ∧ i = .int .i64 k ∧ Hid (inS x (zs.drop k) = inS x zs)) (fun i => len - (intOf i).toNat)
  case atStart => exact ⟨0, Nat.zero_le _, rfl, rfl⟩
  case round =>
    obtain ⟨k, hk, rfl, hno⟩ := hrel
    by_cases hlt : k < len
    · obtain ⟨b, off, z, rfl, hb, hc, hd⟩ := h.at (i := k) (by omega)
      cases ht : (z.toList == x.toList) with
      | true =>
        go_wp2
        go_ret
        exact ⟨ret_bool ((inS_hit hd ht).symm.trans hno.out), rfl⟩
      | false =>
        go_wp2
        go_round
        case rel => exact ⟨k + 1, by omega, by go_num, ((inS_miss hd ht).symm.trans hno.out)⟩
        case measure => simp [intOf]; omega
    · go_wp2
      go_ret
      exact ⟨ret_bool ((inS_end (by omega)).symm.trans hno.out), rfl⟩

/-! ### zzStrBytes -/
/-- The bytes of all. -/
def tot : List ByteArray → Nat
  | [] => 0
  | z :: zs => z.size + tot zs
theorem tot_take {zs : List ByteArray} {k : Nat} {z : ByteArray} (e : Hid (zs.drop k = z :: zs.drop (k + 1))) : tot (zs.take (k + 1)) = tot (zs.take k) + z.size := by
  have hz : zs.take (k + 1) = zs.take k ++ [z] := by
    have : zs[k]? = some z := by rw [← List.head?_drop, e.out]; rfl
    rw [List.take_add_one, this]; rfl
  rw [hz]
  generalize zs.take k = l
  induction l with
  | nil => simp [tot]
  | cons a r ih => simp only [List.cons_append, tot, ih]; omega
theorem tot_le : ∀ (zs : List ByteArray) (k : Nat), tot (zs.take k) ≤ tot zs := by
  intro zs
  induction zs with
  | nil => intro k; simp [tot]
  | cons a r ih =>
    intro k
    cases k with
    | zero => simp [tot]
    | succ k => simp only [List.take_succ_cons, tot]; have := ih k; omega
theorem tot_all {zs : List ByteArray} {k : Nat} (h : zs.length ≤ k) : tot (zs.take k) = tot zs := by rw [List.take_of_length_le h]

set_option maxHeartbeats 400000 in
theorem strBytes_any (ao : Option Addr) (len cap : Nat) (zs : List ByteArray) (w : World) (hlen : zs.length = len) (hl : len ≤ 1048576) (ht : tot zs ≤ 1048576) (h : Rs w ao zs) :
    Calls Try.prog 5 #[.slice ao len cap] w fun e w' => e = .returned (.int .i64 ((16 * len + tot zs : Nat) : Int)) ∧ w = w' := by
  go_enter Try.func5, Try.ntmps5
  go_wp2
  go_loop [3, 4] (fun s i => ∃ k : Nat, k ≤ len ∧ i = .int .i64 k ∧ ∃ t : Nat, s = .int .i64 (16 * (len : Int) + t) ∧ t ≤ 1048576 ∧ Hid (t = tot (zs.take k))) (fun _ i => len - (intOf i).toNat)
  case atStart => exact ⟨0, Nat.zero_le _, rfl, 0, by simp, by omega, rfl⟩
  case round =>
    obtain ⟨k, hk, rfl, t, rfl, ht1, hno⟩ := hrel
    by_cases hlt : k < len
    · obtain ⟨b, off, z, rfl, hb, hc, hd⟩ := h.at (i := k) (by omega)
      have e1 := tot_take hd
      have e2 : t + z.size ≤ 1048576 := by have := tot_le zs (k + 1); have := hno.out; omega
      have e3 : Hid (t + z.size = tot (zs.take (k + 1))) := by show _ = _; rw [e1, hno.out]
      clear e1
      go_wp2
      go_round
      case rel => exact ⟨k + 1, by omega, by go_num, t + z.size, by go_num, e2, e3⟩
      case measure => simp [intOf]; omega
    · have e1 : t = tot zs := by rw [hno.out, tot_all (by omega)]
      go_wp2
      go_ret
      exact ⟨ret_int (by omega), rfl⟩

/-! ### zzCloneStrings_rootg1 -/
theorem Try.info9 : (Try.prog.info? 9).map (fun i => (i.zero, i.size, i.bytes)) = some (some (.string ByteArray.empty), 1, 16) := by kernel_rfl

set_option maxHeartbeats 400000 in
theorem clone_nil (w : World) : Calls Try.prog 6 #[.slice none 0 0] w fun e w' => e = .returned (.slice none 0 0) ∧ w = w' := by
  have hn := fun wx a n c => Lib.run_eql_slice_nil (P := Try.prog) wx 22 9 a n c 0 0 Try.underlying22
  go_enter Try.func6, Try.ntmps6
  go_wp2
  go_ret
  exact ⟨rfl, rfl⟩

theorem clone_step {xs : List Value} {zs : List ByteArray} {k : Nat} {z : ByteArray} (h : Hid (xs.take k = (zs.take k).map Value.string)) (e : Hid (zs.drop k = z :: zs.drop (k + 1))) (hk : k < xs.length) :
    (xs.set k (.string z)).take (k + 1) = (zs.take (k + 1)).map Value.string := by
  have hz : zs.take (k + 1) = zs.take k ++ [z] := by
    have : zs[k]? = some z := by rw [← List.head?_drop, e.out]; rfl
    rw [List.take_add_one, this]; rfl
  rw [hz, List.map_append, ← h.out, List.take_set, List.take_add_one, List.getElem?_eq_getElem hk]
  have hl : (xs.take k).length = k := by simp; omega
  rw [List.set_append_right _ _ (by omega), hl]
  simp

set_option maxHeartbeats 400000 in
theorem clone_some (a : Addr) (len cap : Nat) (zs : List ByteArray) (w : World) (hlen : zs.length = len) (hl : len ≤ 1048576) (h : Rs w (some a) zs) :
    Calls Try.prog 6 #[.slice (some a) len cap] w fun e w' => e = .returned (.slice (some ⟨w.heap.size, 0, none⟩) len len) ∧ w'.ownsRow w.heap.size 9 1 (.slice (some ⟨w.heap.size, 0, none⟩) len len) len (zs.map Value.string) ∧ Below w.heap.size w w' := by
  have hn := fun wx a n c => Lib.run_eql_slice_nil (P := Try.prog) wx 22 9 a n c 0 0 Try.underlying22
  obtain ⟨i0, hi, hz0, hz1, hz2⟩ := info_parts Try.info9
  go_enter Try.func6, Try.ntmps6
  go_wp2_with (at_make; refine wpList_make_full _ rfl _ _ 22 rfl w.heap.size 9 i0 (.string ByteArray.empty) 1 Try.underlying22 hi hz0 hz1 _ _ _ _ len rfl rfl (by omega) (by omega) ?b2 ?b3 (Nat.le_refl _) ?_)
  case b2 => rw [hz2]; omega
  case b3 => unfold maxLen; omega
  intro w0 hown0 hgrow0
  go_wp2
  go_loopw [4] (fun i wr => ∃ (k : Nat) (xs : List Value), k ≤ len ∧ i = .int .i64 k ∧ wr.ownsRow w.heap.size 9 1 (.slice (some ⟨w.heap.size, 0, none⟩) len len) len xs ∧ Hid (xs.take k = (zs.take k).map Value.string) ∧ Below w.heap.size w wr) (fun i _ => len - (intOf i).toNat)
  case atStart => exact ⟨0, _, Nat.zero_le _, rfl, hown0, by simp [Hid], (Below.refl _ _).grown hgrow0 (Nat.le_refl _) (fun k h => by cases h)⟩
  case round =>
    obtain ⟨k, xs, hk, rfl, hown, hx, hbel⟩ := hrel
    by_cases hlt : k < len
    · obtain ⟨b, off, z, ea, hb, hc0, hd⟩ := h.at (i := k) (by omega)
      obtain rfl := Option.some.inj ea
      have hc : wr.cell? ⟨b, off + k, none⟩ = some (.string z) := (hbel.cell (by exact hb)).trans hc0
      have hxl : k < xs.length := by have := hown.1; omega
      have hcd : wr.cell? ⟨w.heap.size, k, none⟩ = some xs[k] := by rw [hown.cellAt k (by omega), List.getElem?_eq_getElem hxl]
      have hfd : wr.frozen? ⟨w.heap.size, k, none⟩ = false := hown.frozenAt k
      obtain ⟨R1, R2⟩ := hown.stored k (.string z)
      have R3 : Hid ((xs.set k (.string z)).take (k + 1) = (zs.take (k + 1)).map Value.string) := clone_step hx hd hxl
      clear hown h hlen
      go_wp2
      go_roundw
      case rel => exact ⟨k + 1, _, by omega, by go_num, R1, R3, hbel.grown R2 hbel.size (fun k hk => by cases hk; exact Nat.le_refl _)⟩
      case measure => simp [intOf]; omega
    · have hxl : xs.length = len := by have := hown.1; omega
      have hkl : k = len := by omega
      have hxs : xs = zs.map Value.string := by
        have := hx.out
        rwa [List.take_of_length_le (by omega), List.take_of_length_le (by omega)] at this
      go_wp2
      go_ret
      exact ⟨rfl, hxs ▸ hown, hbel⟩

/-- What is owned reads as strings. -/
theorem Rs.of_owns {w : World} {base : Nat} {v : Value} {zs : List ByteArray} (h : w.ownsRow base 9 1 v zs.length (zs.map Value.string)) :
    ∃ ao cap, v = .slice ao zs.length cap ∧ Rs w ao zs ∧ (ao = none → zs = []) := by
  have h0 := h
  rcases h.2 with ⟨hv, hn⟩ | ⟨g, cap, cur, hv, hb, hh, hnc, hcm, hcs, ht⟩
  · refine ⟨none, 0, by rw [hv, hn], ?_, fun _ => List.eq_nil_of_length_eq_zero hn⟩
    intro i hi; omega
  · subst hv
    refine ⟨some ⟨g, 0, none⟩, cap, rfl, ?_, fun h => by cases h⟩
    intro i hi
    refine ⟨g, 0, rfl, ?_, ?_⟩
    · exact (h0.lt g rfl).2
    · have := h0.cellAt i (by omega)
      rw [Nat.zero_add, this]
      simp [hi]

theorem clone_any (ao : Option Addr) (len cap : Nat) (zs : List ByteArray) (w : World) (hlen : zs.length = len) (hl : len ≤ 1048576) (h : Rs w ao zs) (hnil : ao = none → len = 0 ∧ cap = 0) :
    Calls Try.prog 6 #[.slice ao len cap] w fun e w' => ∃ ao' cap', e = .returned (.slice ao' len cap') ∧ Rs w' ao' zs ∧ Hid (ao' = none → len = 0 ∧ cap' = 0) ∧ Below w.heap.size w w' := by
  cases ao with
  | none =>
    obtain ⟨rfl, rfl⟩ := hnil rfl
    refine (clone_nil w).mono ?_
    rintro e w' ⟨rfl, rfl⟩
    exact ⟨none, 0, rfl, h, fun _ => ⟨rfl, rfl⟩, Below.refl _ _⟩
  | some a =>
    refine (clone_some a len cap zs w hlen hl h).mono ?_
    rintro e w' ⟨rfl, hown, hb⟩
    obtain ⟨ao', cap', hv, hr, _⟩ := Rs.of_owns (by rw [← hlen] at hown; exact hown)
    rw [hlen] at hv
    refine ⟨ao', cap', by rw [← hv], hr, fun e => ?_, hb⟩
    subst e
    simp at hv

end Go.Proofs.Qxb6003384a
