/-
  Plain law for FnDigestOfHeldRunsLacksJustWhatIsNotHeld.
-/
import Derived.Test.Qxb6602992aKeepWalk
import Derived.Test.Qxb6602992aLacks
namespace Go.Proofs.Qxb6602992a
open Go.RowKit Go.Maps

theorem dig_law {ss : List Int} {acked x j view last : Int} {tr : Bool} (hinc : incr ss = true) (hw : Wf ss) (hx : 0 ≤ x ∧ x ≤ 18446744073709551615) (ha : 0 ≤ acked)
    (htr : tr = decide ((runsF (up acked) [] ss).length = 512)) (hlast : tr = true → last = lastOf (runsF (up acked) [] ss)) :
    lacksB true j acked (runsF (up acked) [] ss) [] x view = (decide (j ≤ view) && (decide (acked < x) && (!(lst x ss) || (tr && decide (last < x))))) := by
  have hb := back_at (frm := up acked) hinc hw htr hlast x
  unfold lacksB
  rw [if_pos rfl, hb]
  by_cases hk : acked < x
  · have hu : up acked ≤ x := by simp only [up, wrapU]; omega
    have h1 : ¬ x ≤ acked := by omega
    have h2 : inr x [] = false := rfl
    have h3 : decide (x ≤ last) = !decide (last < x) := by
      by_cases h : last < x
      · simp [h]
      · simp only [h, decide_false, Bool.not_false, decide_eq_true_eq]; omega
    rw [h2, h3]
    simp only [hk, hu, h1, decide_true, decide_false]
    cases lst x ss <;> cases tr <;> cases decide (last < x) <;> simp
  · have h1 : x ≤ acked := by omega
    simp [hk, h1]

theorem HStart.tidy {w : World} {B bh : Nat} {ss : List Int} {nn : Nat} {D : DataW Msg} (h : HStart w B bh ss nn D) : Tidy D := by
  rcases h with ⟨v, bm, h⟩ | ⟨_, _, rfl⟩
  · exact h.map.tidy key23
  · exact tidy_empty

theorem put_len {ss ss' : List Int} {D : DataW Msg} {x : Int} {d : DataW Msg} (hT : Tidy D) (h : HP ss D) (h' : HP ss' (D.put (.int .u64 x) d)) : ss'.length ≤ ss.length + 1 := by
  rw [← h'.size, size_put hT, ← h.size]
  split <;> omega

theorem cells_four_new (w : World) (x y z u : Value) (t : TypeId) : ∀ j v, [x, y, z, u][j]? = some v → (w.alloc (.cells #[x, y, z, u] t)).cell? ((⟨w.heap.size, 0, none⟩ : Addr).add j) = some v :=
  World.news_of_block (heap_alloc_new w _)

set_option maxHeartbeats 400000 in
theorem bytes35_yes (ho : Option Addr) (hl hc : Nat) (x1 x2 : Int) (n a : ByteArray) (x5 x6 : Int) (w : World) (h : hl + n.size + a.size ≤ 1048576) :
    Calls Try.prog 35 #[.slice ho hl hc, .int .u64 x1, .int .u64 x2, .string n, .string a, .int .u64 x5, .int .u64 x6] w fun e w' => e = .returned (.bool true) ∧ w = w' := by
  go_enter Try.func35, Try.ntmps35
  go_wp2
  go_ret
  exact ⟨rfl, rfl⟩

set_option maxHeartbeats 400000 in
theorem bytes35_no (ho : Option Addr) (hl hc : Nat) (x1 x2 : Int) (n a : ByteArray) (x5 x6 : Int) (w : World) (h : ¬ hl + n.size + a.size ≤ 1048576) (h1 : hl ≤ 9223372036854775807) (h2 : n.size ≤ 9223372036854775807) (h3 : a.size ≤ 9223372036854775807) :
    Calls Try.prog 35 #[.slice ho hl hc, .int .u64 x1, .int .u64 x2, .string n, .string a, .int .u64 x5, .int .u64 x6] w fun e w' => e = .returned (.bool false) ∧ w = w' := by
  go_enter Try.func35, Try.ntmps35
  go_wp2
  all_goals
    go_ret
    exact ⟨rfl, rfl⟩
end Go.Proofs.Qxb6602992a
