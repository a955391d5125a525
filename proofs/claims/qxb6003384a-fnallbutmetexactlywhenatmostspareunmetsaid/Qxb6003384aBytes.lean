/-
  The walk of zzBytes_FnAllButMetExactlyWhenAtMostSpareUnmet: do all lengths sum to at most 1<<20?
-/
import Derived.Test.Qxb6003384aSl
namespace Go.Proofs.Qxb6003384a
open Go.RowKit

set_option maxHeartbeats 1000000 in
theorem bytes_any (spare : Int) (ao : Option Addr) (al ac : Nat) (xs : List ByteArray) (bo : Option Addr) (bl bc : Nat) (bs : List ByteArray) (w : World)
    (hal : xs.length = al) (hbl : bs.length = bl) (ha : Rs w ao xs) (hb : Rs w bo bs) (h1 : al ≤ 9223372036854775807) (h2 : bl ≤ 9223372036854775807)
    (hsa : ∀ s ∈ xs, s.size ≤ 9223372036854775807) (hsb : ∀ s ∈ bs, s.size ≤ 9223372036854775807) (ok : Bool) (hok : Hid (ok = decide (al + tot xs + (bl + tot bs) ≤ 1048576))) :
    Calls Try.prog 4 #[.int .i64 spare, .slice ao al ac, .slice bo bl bc] w fun e w' => e = .returned (.bool ok) ∧ w = w' := by
  by_cases c1 : al ≤ 1048576
  · go_enter Try.func4, Try.ntmps4
    go_wp2
    go_loop [7, 8] (fun n i => ∃ k : Nat, k ≤ al ∧ i = .int .i64 k ∧ ∃ t : Nat, n = .int .i64 t ∧ t ≤ 1048576 ∧ Hid (t = al + tot (xs.take k))) (fun _ i => al - (intOf i).toNat)
    case atStart => exact ⟨0, Nat.zero_le _, rfl, al, rfl, c1, by simp [Hid, tot]⟩
    case round =>
      obtain ⟨k, hk, rfl, t, rfl, ht, htt⟩ := hrel
      by_cases hlt : k < al
      · obtain ⟨b, off, z, rfl, hbb, hc, hd⟩ := ha.at (i := k) (by omega)
        have hzs : z.size ≤ 9223372036854775807 := hsa z (List.mem_of_mem_drop (i := k) (by rw [hd.out]; simp))
        have e1 : Hid (tot (xs.take (k + 1)) = tot (xs.take k) + z.size ∧ tot (xs.take (k + 1)) ≤ tot xs) := ⟨tot_take hd, tot_le _ _⟩
        by_cases c2 : t + z.size ≤ 1048576
        · have e2 : Hid (t + z.size = al + tot (xs.take (k + 1))) := by show _ = _; rw [e1.out.1, htt.out]; omega
          go_wp2
          go_round
          case rel => exact ⟨k + 1, by omega, by go_num, t + z.size, by go_num, by omega, e2⟩
          case measure => simp [intOf]; omega
        · obtain rfl : ok = false := by rw [hok.out, decide_eq_false_iff_not]; have := e1.out; have := htt.out; omega
          by_cases c3 : z.size ≤ 1048576
          · go_wp2
            go_ret
            exact ⟨rfl, rfl⟩
          · go_wp2
            go_ret
            exact ⟨rfl, rfl⟩
      · have e1 : t = al + tot xs := by rw [htt.out, tot_all (by omega)]
        have HT : Hid (t = al + tot xs) := e1
        clear e1 htt
        by_cases c2 : t + bl ≤ 1048576
        · go_wp2
          clear hlt
          go_loop [7, 9] (fun n i => ∃ k : Nat, k ≤ bl ∧ i = .int .i64 k ∧ ∃ t' : Nat, n = .int .i64 t' ∧ t' ≤ 1048576 ∧ Hid (t' = t + bl + tot (bs.take k))) (fun _ i => bl - (intOf i).toNat)
          case atStart => exact ⟨0, Nat.zero_le _, rfl, t + bl, by go_num, c2, by simp [Hid, tot]⟩
          case round =>
            obtain ⟨j, hj, rfl, t', rfl, ht', htt⟩ := hrel
            by_cases hlt : j < bl
            · obtain ⟨b, off, z, rfl, hbb, hc, hd⟩ := hb.at (i := j) (by omega)
              have hzs : z.size ≤ 9223372036854775807 := hsb z (List.mem_of_mem_drop (i := j) (by rw [hd.out]; simp))
              have e1 : Hid (tot (bs.take (j + 1)) = tot (bs.take j) + z.size ∧ tot (bs.take (j + 1)) ≤ tot bs) := ⟨tot_take hd, tot_le _ _⟩
              by_cases c4 : t' + z.size ≤ 1048576
              · have e2 : Hid (t' + z.size = t + bl + tot (bs.take (j + 1))) := by show _ = _; rw [e1.out.1, htt.out]; omega
                go_wp2
                go_round
                case rel => exact ⟨j + 1, by omega, by go_num, t' + z.size, by go_num, by omega, e2⟩
                case measure => simp [intOf]; omega
              · obtain rfl : ok = false := by rw [hok.out, decide_eq_false_iff_not]; have := e1.out; have := htt.out; have := HT.out; omega
                by_cases c3 : z.size ≤ 1048576
                · go_wp2
                  go_ret
                  exact ⟨rfl, rfl⟩
                · go_wp2
                  go_ret
                  exact ⟨rfl, rfl⟩
            · have e1 : t' = t + bl + tot bs := by rw [htt.out, tot_all (by omega)]
              obtain rfl : ok = true := by rw [hok.out, decide_eq_true_eq]; have := HT.out; omega
              clear e1
              go_wp2
              go_ret
              exact ⟨rfl, rfl⟩
        · obtain rfl : ok = false := by rw [hok.out, decide_eq_false_iff_not]; have := HT.out; omega
          by_cases c3 : bl ≤ 1048576
          · go_wp2
            go_ret
            exact ⟨rfl, rfl⟩
          · go_wp2
            go_ret
            exact ⟨rfl, rfl⟩
  · obtain rfl : ok = false := by rw [hok.out, decide_eq_false_iff_not]; omega
    go_enter Try.func4, Try.ntmps4
    go_wp2
    go_ret
    exact ⟨rfl, rfl⟩
end Go.Proofs.Qxb6003384a
