/-
  The walk of FnAllButMetExactlyWhenAtMostSpareUnmet.
-/
import Derived.Test.Qxb6003384aMet
import Derived.Test.Qxb6003384aBytes
namespace Go.Proofs.Qxb6003384a
open Go.RowKit

theorem empty_list : ((⟨#[]⟩ : ByteArray).toList == []) = true := by decide +kernel

set_option maxHeartbeats 4000000 in
set_option maxRecDepth 1000000 in
theorem all_walk (spare : Int) (ao : Option Addr) (al ac : Nat) (xs : List ByteArray) (bo : Option Addr) (bl bc : Nat) (bs : List ByteArray) (w : World)
    (hal : xs.length = al) (hbl : bs.length = bl) (ha : Rs w ao xs) (hb : Rs w bo bs) (h1 : al ≤ 9223372036854775807) (h2 : bl ≤ 9223372036854775807)
    (hsa : ∀ s ∈ xs, s.size ≤ 9223372036854775807) (hsb : ∀ s ∈ bs, s.size ≤ 9223372036854775807) (hna : ao = none → al = 0 ∧ ac = 0) (hnb : bo = none → bl = 0 ∧ bc = 0) :
    Calls Try.prog 3 #[.int .i64 spare, .slice ao al ac, .slice bo bl bc] w fun e w' => e = .returned (.bool true) ∧ Below w.heap.size w w' := by
  by_cases hT : al + tot xs + (bl + tot bs) ≤ 1048576
  · have HBY := bytes_any spare ao al ac xs bo bl bc bs w hal hbl ha hb h1 h2 hsa hsb true (by simp [Hid, hT])
    have hta : tot xs ≤ 1048576 := by omega
    have htb : tot bs ≤ 1048576 := by omega
    have ha1 : al ≤ 1048576 := by omega
    have hb1 : bl ≤ 1048576 := by omega
    by_cases hA : al ≤ 65536 ∧ bl ≤ 65536
    · obtain ⟨hA1, hA2⟩ := hA
      obtain ⟨s1, hs1⟩ : ∃ s1 : Nat, s1 = 16 * al + tot xs := ⟨_, rfl⟩
      obtain ⟨s2, hs2⟩ : ∃ s2 : Nat, s2 = 16 * bl + tot bs := ⟨_, rfl⟩
      have C1 := strBytes_any ao al ac xs w hal ha1 hta ha
      have C2 := strBytes_any bo bl bc bs w hbl hb1 htb hb
      rw [← hs1] at C1
      rw [← hs2] at C2
      have hs1' : s1 ≤ 4194304 := by omega
      have hs2' : s2 ≤ 4194304 := by omega
      clear hs1 hs2 hta htb hT
      by_cases hS : s1 + s2 ≤ 1048576
      · by_cases hP : -1048576 ≤ spare ∧ spare ≤ 1048576
        · obtain ⟨hP1, hP2⟩ := hP
          go_enter Try.func3, Try.ntmps3
          go_wp2_with fail
          refine HBY.mono ?_
          rintro e w' ⟨rfl, rfl⟩
          go_wp2_with fail
          refine C1.mono ?_
          rintro e w' ⟨rfl, rfl⟩
          go_wp2_with fail
          refine C2.mono ?_
          rintro e w' ⟨rfl, rfl⟩
          clear C1 C2 HBY
          go_wp2_with fail
          refine (clone_any ao al ac xs _ hal ha1 ha hna).mono ?_
          rintro e w1 ⟨ao1, ac1, rfl, ha', hna', hb1'⟩
          have hb' := hb.below hb1'
          clear ha hb
          go_wp2_with fail
          refine (clone_any bo bl bc bs _ hbl hb1 hb' hnb).mono ?_
          rintro e w2 ⟨bo1, bc1, rfl, hb2, _, hB2⟩
          have ha2 := ha'.below hB2
          have hB02 : Below w.heap.size w w2 := hb1'.trans (hB2.mono hb1'.size)
          clear ha' hb' hB2 hb1'
          go_wp2_with fail
          refine (ids_any ao1 al ac1 xs _ hal ha1 ha2 hna'.out).mono ?_
          rintro e w3 ⟨po, pc, rfl, hc3, hB3⟩
          have HB03 : Hid (Below w.heap.size w w3) := hB02.trans (hB3.mono hB02.size)
          have HC3 : Hid (Rc w3 po xs) := hc3
          have HF3 : Hid (Rs w3 bo1 bs) := hb2.below hB3
          clear ha2 hb2 hc3 hB3 hB02 hna hnb
          go_wp2
          go_loopw [8, 9] (fun n i wr => ∃ k : Nat, k ≤ al ∧ i = .int .i64 k ∧ ∃ c : Nat, n = .int .i64 c ∧ c ≤ k ∧ Hid (c + cnt bs (xs.take k) = k) ∧ Hid (Below w3.heap.size w3 wr)) (fun _ i _ => al - (intOf i).toNat)
          case atStart => exact ⟨0, Nat.zero_le _, rfl, 0, rfl, Nat.le_refl _, rfl, Below.refl _ _⟩
          case round =>
            obtain ⟨k, hk, rfl, c, rfl, hck, hc, hbz⟩ := hrel
            obtain ⟨w4, rfl⟩ : ∃ w4, w4 = wr := ⟨_, rfl⟩
            have hp4 := HC3.out.below hbz.out
            have hf4 := HF3.out.below hbz.out
            by_cases hlt : k < al
            · obtain ⟨g, z, rfl, hg, e0, e1, e2, hd⟩ := hp4.at (k := k) (by omega)
              have HC : Hid (cnt bs (xs.take (k + 1)) = cnt bs (xs.take k) + (if metS z bs then 1 else 0)) := cnt_take hd
              obtain ⟨m, hm⟩ : ∃ m, Hid (m = metS z bs) := ⟨_, rfl⟩
              have HL : Hid (Calls Try.prog 8 #[.agg #[.string z, .int .i64 0, .slice none 0 0], .slice bo1 bl bc1] w4 fun e w' => e = .returned (.bool m) ∧ Below w4.heap.size w4 w') := by
                rw [hm.out]; exact met_leaf z bo1 bl bc1 bs w4 hbl hb1 hf4
              rw [← hm.out] at HC
              clear hp4 hf4
              go_wp2_with fail
              refine HL.out.mono ?_
              rintro e w5 ⟨rfl, hb5⟩
              have hb35 : Below w3.heap.size w3 w5 := hbz.out.trans (hb5.mono hbz.out.size)
              clear e0 e1 e2 HL hb5
              cases m with
              | true =>
                have HCC : Hid (c + cnt bs (xs.take (k + 1)) = k + 1) := by show _ = _; rw [HC.out]; have := hc.out; simp; omega
                go_wp2
                go_roundw
                case rel => exact ⟨k + 1, by omega, by go_num, c, rfl, by omega, HCC.out, hb35⟩
                case measure => simp [intOf]; omega
              | false =>
                have HCC : Hid (c + 1 + cnt bs (xs.take (k + 1)) = k + 1) := by show _ = _; rw [HC.out]; have := hc.out; simp; omega
                go_wp2
                go_roundw
                case rel => exact ⟨k + 1, by omega, by go_num, c + 1, by go_num, by omega, HCC.out, hb35⟩
                case measure => simp [intOf]; omega
            · have hcc : Hid (c + cnt bs xs = al) := by
                have := hc.out
                rw [List.take_of_length_le (by omega)] at this
                show _ = _; omega
              have HB04 : Hid (Below w.heap.size w w4) := HB03.out.trans (hbz.out.mono HB03.out.size)
              have HC4 : Hid (Rc w4 po xs) := hp4
              have HF4 : Hid (Rs w4 bo1 bs) := hf4
              clear hp4 hf4 hc hbz HC3 HF3 HB03
              by_cases hq : spare < (al : Int)
              · go_wp2_with fail
                refine (allBut_yes spare po al pc _ ha1 hP1 hP2 hq).mono ?_
                rintro e w5 ⟨rfl, hb5⟩
                have HB05 : Hid (Below w.heap.size w w5) := HB04.out.trans (hb5.mono HB04.out.size)
                have HC5 : Hid (Rc w5 po xs) := HC4.out.below hb5
                have HF5 : Hid (Rs w5 bo1 bs) := HF4.out.below hb5
                clear hb5 HB04 HC4 HF4
                have HAL : ∀ o, Below w5.heap.size w5 (w5.alloc o) := fun o => (Below.refl _ _).alloc (Nat.le_refl _) _
                go_wp2_with fail
                refine (met_node ⟨#[]⟩ empty_list ((al : Int) - spare) po al pc xs bo1 bl bc1 bs _ hal ha1 (HC5.out.below (HAL _)) hbl hb1 (HF5.out.below (HAL _))).mono ?_
                rintro e w6 ⟨rfl, hb6⟩
                have hb06 := HB05.out.trans (((HAL _).trans (hb6.mono (HAL _).size)).mono HB05.out.size)
                have hfin : decide ((al : Int) - spare ≤ (cnt bs xs : Int)) = decide ((c : Int) ≤ spare) := by
                  have := hcc.out
                  rw [decide_eq_decide]; omega
                rw [hfin]
                clear hfin hb6 HAL
                go_wp2
                all_goals
                  go_ret
                  exact ⟨by simp, hb06⟩
              · go_wp2_with fail
                refine (allBut_no spare po al pc _ ha1 hP1 hP2 (by omega)).mono ?_
                rintro e w5 ⟨rfl, hb5⟩
                have HB05 : Hid (Below w.heap.size w w5) := HB04.out.trans (hb5.mono HB04.out.size)
                clear hb5
                go_wp2
                go_ret
                exact ⟨rfl, HB05.out.alloc HB05.out.size _⟩
        · go_enter Try.func3, Try.ntmps3
          go_wp2_with fail
          refine HBY.mono ?_
          rintro e w' ⟨rfl, rfl⟩
          go_wp2_with fail
          refine C1.mono ?_
          rintro e w' ⟨rfl, rfl⟩
          go_wp2_with fail
          refine C2.mono ?_
          rintro e w' ⟨rfl, rfl⟩
          by_cases hP1 : -1048576 ≤ spare
          · go_wp2
            go_ret
            exact ⟨rfl, Below.refl _ _⟩
          · go_wp2
            go_ret
            exact ⟨rfl, Below.refl _ _⟩
      · go_enter Try.func3, Try.ntmps3
        go_wp2_with fail
        refine HBY.mono ?_
        rintro e w' ⟨rfl, rfl⟩
        go_wp2_with fail
        refine C1.mono ?_
        rintro e w' ⟨rfl, rfl⟩
        go_wp2_with fail
        refine C2.mono ?_
        rintro e w' ⟨rfl, rfl⟩
        go_wp2
        go_ret
        exact ⟨rfl, Below.refl _ _⟩
    · by_cases hA1 : al ≤ 65536
      · go_enter Try.func3, Try.ntmps3
        go_wp2_with fail
        refine HBY.mono ?_
        rintro e w' ⟨rfl, rfl⟩
        go_wp2
        go_ret
        exact ⟨rfl, Below.refl _ _⟩
      · go_enter Try.func3, Try.ntmps3
        go_wp2_with fail
        refine HBY.mono ?_
        rintro e w' ⟨rfl, rfl⟩
        go_wp2
        go_ret
        exact ⟨rfl, Below.refl _ _⟩
  · have HBY := bytes_any spare ao al ac xs bo bl bc bs w hal hbl ha hb h1 h2 hsa hsb false (by simp [Hid]; omega)
    go_enter Try.func3, Try.ntmps3
    go_wp2_with fail
    refine HBY.mono ?_
    rintro e w' ⟨rfl, rfl⟩
    go_wp2
    go_ret
    exact ⟨rfl, Below.refl _ _⟩
end Go.Proofs.Qxb6003384a
