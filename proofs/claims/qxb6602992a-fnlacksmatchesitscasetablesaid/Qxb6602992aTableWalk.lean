/-
  The walk of FnLacksMatchesItsCaseTable.
-/
import Derived.Test.Qxb6602992aLacks
import Derived.Test.Qxb6602992aCovers
namespace Go.Proofs.Qxb6602992a
open Go.RowKit Go.Maps

set_option maxHeartbeats 400000 in
theorem bytes21_yes (x0 x1 : Int) (ho : Option Addr) (hl hc : Nat) (vo : Option Addr) (vl vc : Nat) (n a : ByteArray) (x6 : Int) (n' a' : ByteArray) (x9 x10 x11 : Int) (w : World) (h : hl + vl + n.size + a.size + n'.size + a'.size ≤ 1048576) :
    Calls Try.prog 21 #[.int .u64 x0, .int .u64 x1, .slice ho hl hc, .slice vo vl vc, .string n, .string a, .int .u64 x6, .string n', .string a', .int .u64 x9, .int .u64 x10, .int .u64 x11] w fun e w' => e = .returned (.bool true) ∧ w = w' := by
  go_enter Try.func21, Try.ntmps21
  go_wp2
  go_ret
  exact ⟨rfl, rfl⟩

set_option maxHeartbeats 400000 in
theorem bytes21_no (x0 x1 : Int) (ho : Option Addr) (hl hc : Nat) (vo : Option Addr) (vl vc : Nat) (n a : ByteArray) (x6 : Int) (n' a' : ByteArray) (x9 x10 x11 : Int) (w : World) (h : ¬ hl + vl + n.size + a.size + n'.size + a'.size ≤ 1048576)
    (h1 : hl ≤ 9223372036854775807) (h2 : vl ≤ 9223372036854775807) (h3 : n.size ≤ 9223372036854775807) (h4 : a.size ≤ 9223372036854775807) (h5 : n'.size ≤ 9223372036854775807) (h6 : a'.size ≤ 9223372036854775807) :
    Calls Try.prog 21 #[.int .u64 x0, .int .u64 x1, .slice ho hl hc, .slice vo vl vc, .string n, .string a, .int .u64 x6, .string n', .string a', .int .u64 x9, .int .u64 x10, .int .u64 x11] w fun e w' => e = .returned (.bool false) ∧ w = w' := by
  go_enter Try.func21, Try.ntmps21
  go_wp2
  all_goals
    go_ret
    exact ⟨rfl, rfl⟩

theorem bytes_eq {a b : ByteArray} (h : a.toList = b.toList) : a = b := WideShapes.bytes_inj (by rw [← ByteArray.toList_eq, ← ByteArray.toList_eq]; exact h)

set_option maxHeartbeats 4000000 in
set_option maxRecDepth 1000000 in
theorem table_walk (x0 x1 : Int) (ho : Option Addr) (hl hc : Nat) (hs : List Int) (vo : Option Addr) (vl vc : Nat) (vs : List Int) (n a : ByteArray) (x6 : Int) (n' a' : ByteArray) (x9 x10 x11 : Int) (w : World)
    (hhl : hs.length = hl) (hvl : vs.length = vl) (hh : Rd w ho hs) (hv : Rd w vo vs) (hhn : ho = none → hl = 0 ∧ hc = 0) (hvn : vo = none → vl = 0 ∧ vc = 0) (h1 : hl ≤ 9223372036854775807) (h2 : vl ≤ 9223372036854775807)
    (h3 : n.size ≤ 9223372036854775807) (h4 : a.size ≤ 9223372036854775807) (h5 : n'.size ≤ 9223372036854775807) (h6 : a'.size ≤ 9223372036854775807) (w6 : (Lit.int .u64 x6).wf = true) (w9 : (Lit.int .u64 x9).wf = true) (hx10 : 0 ≤ x10) :
    Calls Try.prog 6 #[.int .u64 x0, .int .u64 x1, .slice ho hl hc, .slice vo vl vc, .string n, .string a, .int .u64 x6, .string n', .string a', .int .u64 x9, .int .u64 x10, .int .u64 x11] w fun e w' => e = .returned (.bool true) ∧ Below w.heap.size w w' := by
  by_cases hb : hl + vl + n.size + a.size + n'.size + a'.size ≤ 1048576
  · by_cases hA : 8 * hl + 8 * vl + n.size + a.size + n'.size + a'.size ≤ 1048576
    · go_enter Try.func6, Try.ntmps6
      go_wp2_with fail
      refine (bytes21_yes x0 x1 ho hl hc vo vl vc n a x6 n' a' x9 x10 x11 _ hb).mono ?_
      rintro e w' ⟨rfl, rfl⟩
      go_wp2_with fail
      refine (clone_any ho hl hc hs _ hhl (by omega) hh hhn).mono ?_
      rintro e w1 ⟨ho1, hc1, rfl, hh1, hb1⟩
      go_wp2_with fail
      refine (clone_any vo vl vc vs _ hvl (by omega) (hv.below hb1) hvn).mono ?_
      rintro e w2 ⟨vo1, vc1, rfl, hv1, hb2⟩
      replace hh1 := hh1.below hb2
      have hB2 : Below w.heap.size w w2 := hb1.trans (hb2.mono hb1.size)
      clear hh hv hhn hvn hb1 hb2
      have hbel : ∀ o1 o2, Below w2.heap.size w2 ((w2.alloc o1).alloc o2) := fun o1 o2 => ((Below.refl _ _).alloc (Nat.le_refl _) _).alloc (by simp) _
      go_wp2_with fail
      refine (digest_any x0 n a x6 x1 ho1 hl hc1 vo1 vl vc1 _ h3 h4 w6).mono ?_
      rintro e w3 ⟨bd, rfl, hD, hb3⟩
      have hbl := (hbel _ _).trans (hb3.mono (hbel _ _).size)
      have hh3 := hh1.below hbl
      have hv3 := hv1.below hbl
      have hB3 : Below w.heap.size w w3 := hB2.trans (hbl.mono hB2.size)
      have hk : w3.heap[w2.heap.size + 1]? = some (.cells #[.string n', .string a', .int .u64 x9] 32 (0, 0)) := by
        rw [hb3.block _ (by simp)]
        simpa using heap_alloc_new (w2.alloc (.cells #[.string n, .string a, .int .u64 x6] 32)) (.cells #[.string n', .string a', .int .u64 x9] 32)
      have d0 : w3.cell? ⟨w2.heap.size + 1, 0, none⟩ = some (.string n') := by rw [cell_of_row _ _ _ _ _ _ hk]; rfl
      have d1 : w3.cell? ⟨w2.heap.size + 1, 1, none⟩ = some (.string a') := by rw [cell_of_row _ _ _ _ _ _ hk]; rfl
      have d2 : w3.cell? ⟨w2.heap.size + 1, 2, none⟩ = some (.int .u64 x9) := by rw [cell_of_row _ _ _ _ _ _ hk]; rfl
      clear hk hb3 hbl hbel hh1 hv1
      go_wp2_with fail
      refine (zzlacks_any bd x0 n a x6 x1 ho1 hl hc1 vo1 vl vc1 hs vs n' a' x9 x10 x11 _ h3 h4 w6 h5 h6 w9 hD hhl hvl (by omega) (by omega) hh3 hv3).mono ?_
      rintro e w4 ⟨rfl, hb4⟩
      have hh4 := hh3.below hb4
      have hv4 := hv3.below hb4
      have hB4 : Below w.heap.size w w4 := hB3.trans (hb4.mono hB3.size)
      clear d0 d1 d2 hh3 hv3 hD hb4 hB3
      generalize hgot : lacksB (decide (n = n' ∧ a = a' ∧ x6 = x9)) x0 x1 hs vs x10 x11 = got
      by_cases hsame : n = n' ∧ a = a' ∧ x6 = x9
      · obtain ⟨rfl, rfl, rfl⟩ := hsame
        by_cases hj : x0 ≤ x11
        · by_cases hk : x1 < x10
          · have hk' : ¬ x10 ≤ x1 := by omega
            cases eh : inr x10 hs <;> cases ev : inr x10 vs
            all_goals
              obtain rfl := (show got = _ from hgot.symm.trans (by simp only [lacksB, hj, hk', eh, ev]; simp; rfl))
              clear hgot
              go_wp2_with (first | (go_at_call_of 24 (Value.slice ho1 hl hc1); refine (covers_any ho1 hl hc1 hs x10 _ hhl (by omega) hh4).mono ?_; rintro e w' ⟨rfl, rfl⟩) | (go_at_call_of 24 (Value.slice vo1 vl vc1); refine (covers_any vo1 vl vc1 vs x10 _ hvl (by omega) hv4).mono ?_; rintro e w' ⟨rfl, rfl⟩))
              go_ret
              exact ⟨rfl, hB4⟩
          · have hk' : x10 ≤ x1 := by omega
            obtain rfl : got = false := hgot.symm.trans (by simp [lacksB, hk'])
            clear hgot
            go_wp2
            go_ret
            exact ⟨rfl, hB4⟩
        · obtain rfl : got = false := hgot.symm.trans (by simp [lacksB, hj])
          clear hgot
          go_wp2
          go_ret
          exact ⟨rfl, hB4⟩
      · have hd : decide (n = n' ∧ a = a' ∧ x6 = x9) = false := by simpa using hsame
        rw [hd] at hgot
        have HS : Hid (¬ (n = n' ∧ a = a' ∧ x6 = x9)) := hsame
        clear hsame hd
        by_cases hj : x0 ≤ x11
        · by_cases hz : x10 = 0
          · obtain rfl : got = false := hgot.symm.trans (by simp [lacksB, hz])
            clear hgot
            go_wp2
            all_goals first | (exact absurd ⟨bytes_eq ‹_›, bytes_eq ‹_›, eq_of_beq ‹_›⟩ HS.out) | (go_ret; exact ⟨rfl, hB4⟩)
          · obtain rfl : got = true := hgot.symm.trans (by simp [lacksB, hj]; omega)
            have hzb : (x10 != 0) = true := by simpa using hz
            clear hgot
            go_wp2
            all_goals first | (exact absurd ⟨bytes_eq ‹_›, bytes_eq ‹_›, eq_of_beq ‹_›⟩ HS.out) | (go_ret; exact ⟨rfl, hB4⟩)
        · obtain rfl : got = false := hgot.symm.trans (by simp [lacksB, hj])
          clear hgot
          go_wp2
          all_goals first | (exact absurd ⟨bytes_eq ‹_›, bytes_eq ‹_›, eq_of_beq ‹_›⟩ HS.out) | (go_ret; exact ⟨rfl, hB4⟩)
    · go_enter Try.func6, Try.ntmps6
      go_wp2_with fail
      refine (bytes21_yes x0 x1 ho hl hc vo vl vc n a x6 n' a' x9 x10 x11 _ hb).mono ?_
      rintro e w' ⟨rfl, rfl⟩
      go_wp2
      all_goals
        go_ret
        exact ⟨rfl, Below.refl _ _⟩
  · go_enter Try.func6, Try.ntmps6
    go_wp2_with fail
    refine (bytes21_no x0 x1 ho hl hc vo vl vc n a x6 n' a' x9 x10 x11 _ hb h1 h2 h3 h4 h5 h6).mono ?_
    rintro e w' ⟨rfl, rfl⟩
    go_wp2
    go_ret
    exact ⟨rfl, Below.refl _ _⟩
end Go.Proofs.Qxb6602992a
