/-
  lacks of a digest that speaks of another sender, and ZZLacks.
-/
import Derived.Test.Qxb6602992aDigest
namespace Go.Proofs.Qxb6602992a
open Go.RowKit Go.Maps

set_option maxHeartbeats 1000000 in
/-- lacks, of a digest that speaks of another sender. -/
theorem lacks_other (bd : Nat) (j : Int) (n0 a0 : ByteArray) (i0 acked : Int) (hv0 av0 : Value) (n a : ByteArray) (i : Int) (seq view : Int) (w : World) (hn0 : n0.size ≤ maxLen) (ha0 : a0.size ≤ maxLen) (hi0 : (Lit.int .u64 i0).wf = true) (hn : n.size ≤ maxLen) (ha : a.size ≤ maxLen) (hi : (Lit.int .u64 i).wf = true) (hne : ¬ (n0 = n ∧ a0 = a ∧ i0 = i))
    (hD : IsDig w bd j n0 a0 i0 acked hv0 av0) :
    Calls Try.prog 39 #[.pointer (some ⟨bd, 0, none⟩), .agg #[.string n, .string a, .int .u64 i], .agg #[.string n, .string a, .int .u64 i, .int .u64 seq, .int .u64 view, .int .u64 0, .slice none 0 0, .slice none 0 0, .int .u64 0, .slice none 0 0]] w fun e w' =>
      e = .returned (.bool (decide (j ≤ view) && !decide (seq ≤ 0))) ∧ Below w.heap.size w w' := by
  obtain ⟨bm, hb1, hb2⟩ := hD
  have l1 : bd < w.heap.size := (Array.getElem?_eq_some_iff.1 hb1).1
  have l2 : bm < w.heap.size := (Array.getElem?_eq_some_iff.1 hb2).1
  have hc0 : w.cell? ⟨bd, 0, none⟩ = some (.int .u64 j) := by rw [cell_of_row w bd 0 _ _ _ hb1]; rfl
  have hc3 : w.cell? ⟨bd, 3, none⟩ = some (.map (some bm)) := by rw [cell_of_row w bd 3 _ _ _ hb1]; rfl
  have hlook : ∀ wx : World, Below w.heap.size w wx → (Instr.lookup 55 (.map (some bm)) (.agg #[.string n, .string a, .int .u64 i]) false).run Try.prog wx = .ok (.agg #[.string ByteArray.empty, .string ByteArray.empty, .int .u64 0, .int .u64 0, .slice none 0 0, .slice none 0 0]) wx := by
    intro wx hB
    rw [run_lookD hn0 ha0 hi0 hn ha hi (by rw [hB.block _ l2]; exact hb2), if_neg hne]
  clear hb1 hb2
  have K1 : ∀ o1 o2, (Instr.lookup 55 (.map (some bm)) (.agg #[.string n, .string a, .int .u64 i]) false).run Try.prog ((w.alloc o1).alloc o2).drew = .ok (.agg #[.string ByteArray.empty, .string ByteArray.empty, .int .u64 0, .int .u64 0, .slice none 0 0, .slice none 0 0]) ((w.alloc o1).alloc o2).drew :=
    fun o1 o2 => hlook _ (((Below.refl _ _).alloc (Nat.le_refl _) _).alloc (by simp) _).drew
  have K2 : ∀ o1 o2 o3, (Instr.lookup 55 (.map (some bm)) (.agg #[.string n, .string a, .int .u64 i]) false).run Try.prog (((w.alloc o1).alloc o2).alloc o3).drew = .ok (.agg #[.string ByteArray.empty, .string ByteArray.empty, .int .u64 0, .int .u64 0, .slice none 0 0, .slice none 0 0]) (((w.alloc o1).alloc o2).alloc o3).drew :=
    fun o1 o2 o3 => hlook _ ((((Below.refl _ _).alloc (Nat.le_refl _) _).alloc (by simp) _).alloc (by simp; omega) _).drew
  have C3 : ∀ o1 o2 o3, (((w.alloc o1).alloc o2).alloc o3).cell? ⟨bd, 3, none⟩ = some (.map (some bm)) :=
    fun o1 o2 o3 => (((((Below.refl _ _).alloc (Nat.le_refl _) _).alloc (by simp) _).alloc (by simp; omega) _).cell (p := ⟨bd, 3, none⟩) l1).trans hc3
  have C0 : ∀ o1 o2 o3, (((w.alloc o1).alloc o2).alloc o3).cell? ⟨bd, 0, none⟩ = some (.int .u64 j) :=
    fun o1 o2 o3 => (((((Below.refl _ _).alloc (Nat.le_refl _) _).alloc (by simp) _).alloc (by simp; omega) _).cell (p := ⟨bd, 0, none⟩) l1).trans hc0
  have hbel : ∀ o1 o2 o3, Below w.heap.size w (((w.alloc o1).alloc o2).alloc o3) := fun o1 o2 o3 => (((Below.refl _ _).alloc (Nat.le_refl _) _).alloc (by simp) _).alloc (by simp; omega) _
  clear hlook
  have gi : inr seq [] = false := rfl
  clear hne
  by_cases g1 : seq ≤ 0
  all_goals
    go_enter Try.func39, Try.ntmps39
    go_wp2
    go_region_held3 (fun w' => w'.cell? ⟨bd, 3, none⟩ = some (.map (some bm)) ∧ w'.cell? ⟨w.heap.size, 0, none⟩ = some (.string n) ∧ w'.cell? ⟨w.heap.size, 1, none⟩ = some (.string a) ∧ w'.cell? ⟨w.heap.size, 2, none⟩ = some (.int .u64 i) ∧ (Instr.lookup 55 (.map (some bm)) (.agg #[.string n, .string a, .int .u64 i]) false).run Try.prog w' = .ok (.agg #[.string ByteArray.empty, .string ByteArray.empty, .int .u64 0, .int .u64 0, .slice none 0 0, .slice none 0 0]) w') (go_keep) (fail)
    all_goals
      go_wp2_with (go_at_call 41; refine (inruns_any none 0 0 [] seq _ rfl (by omega) (Rd.nil _ _)).mono ?_; rintro e w' ⟨rfl, rfl⟩)
      by_cases hj : j ≤ view
      · have gd : decide (j ≤ view) = true := by simpa using hj
        go_quiet (fail)
        go_wp2
        go_ret
        exact ⟨ret_bool (by simp [*]), by first | exact below_drewN (hbel _ _ _) _ | exact below_drewN (hbel _ _ _).drew _⟩
      · have gd : decide (j ≤ view) = false := by simpa using hj
        go_quiet (fail)
        go_wp2
        go_ret
        exact ⟨ret_bool (by simp [*]), by first | exact below_drewN (hbel _ _ _) _ | exact below_drewN (hbel _ _ _).drew _⟩
set_option maxHeartbeats 400000 in
/-- lacks, of no digest. -/
theorem lacks_nil (n a : ByteArray) (i : Int) (n' a' : ByteArray) (i' seq view : Int) (w : World) :
    Calls Try.prog 39 #[.pointer none, .agg #[.string n, .string a, .int .u64 i], .agg #[.string n', .string a', .int .u64 i', .int .u64 seq, .int .u64 view, .int .u64 0, .slice none 0 0, .slice none 0 0, .int .u64 0, .slice none 0 0]] w fun e w' =>
      e = .returned (.bool true) ∧ Below w.heap.size w w' := by
  go_enter Try.func39, Try.ntmps39
  go_wp2
  go_ret
  exact ⟨rfl, ((Below.refl _ _).alloc (Nat.le_refl _) _).alloc (by simp) _⟩

/-- What lacks answers. -/
def lacksB (same : Bool) (j acked : Int) (hs vs : List Int) (seq view : Int) : Bool :=
  decide (j ≤ view) && !(if same then decide (seq ≤ acked) || inr seq vs || inr seq hs else decide (seq ≤ 0))

set_option maxHeartbeats 400000 in
/-- ZZLacks, of a digest. -/
theorem zzlacks_any (bd : Nat) (j : Int) (n0 a0 : ByteArray) (i0 acked : Int) (ho : Option Addr) (hl hc : Nat) (vo : Option Addr) (vl vc : Nat) (hs vs : List Int) (n a : ByteArray) (i seq view : Int) (w : World)
    (hn0 : n0.size ≤ maxLen) (ha0 : a0.size ≤ maxLen) (hi0 : (Lit.int .u64 i0).wf = true) (hn : n.size ≤ maxLen) (ha : a.size ≤ maxLen) (hi : (Lit.int .u64 i).wf = true)
    (hD : IsDig w bd j n0 a0 i0 acked (.slice ho hl hc) (.slice vo vl vc)) (hhl : hs.length = hl) (hvl : vs.length = vl) (hhm : hl ≤ 1048576) (hvm : vl ≤ 1048576) (hh : Rd w ho hs) (hv : Rd w vo vs) :
    Calls Try.prog 23 #[.pointer (some ⟨bd, 0, none⟩), .agg #[.string n, .string a, .int .u64 i], .agg #[.string n, .string a, .int .u64 i, .int .u64 seq, .int .u64 view, .int .u64 0, .slice none 0 0, .slice none 0 0, .int .u64 0, .slice none 0 0]] w fun e w' =>
      e = .returned (.bool (lacksB (decide (n0 = n ∧ a0 = a ∧ i0 = i)) j acked hs vs seq view)) ∧ Below w.heap.size w w' := by
  have hbel : ∀ o1 o2, Below w.heap.size w ((w.alloc o1).alloc o2) := fun o1 o2 => ((Below.refl _ _).alloc (Nat.le_refl _) _).alloc (by simp) _
  by_cases he : n0 = n ∧ a0 = a ∧ i0 = i
  · obtain ⟨rfl, rfl, rfl⟩ := he
    go_enter Try.func23, Try.ntmps23
    go_wp2_with fail
    refine (lacks_same bd j n0 a0 i0 acked ho hl hc vo vl vc hs vs seq view _ hn0 ha0 hi0 (hD.below (hbel _ _)) hhl hvl hhm hvm (hh.below (hbel _ _)) (hv.below (hbel _ _))).mono ?_
    rintro e w' ⟨rfl, hb⟩
    go_wp2
    go_ret
    exact ⟨ret_bool (by simp [lacksB]), (hbel _ _).trans (hb.mono (hbel _ _).size)⟩
  · have hd : decide (n0 = n ∧ a0 = a ∧ i0 = i) = false := by simpa using he
    rw [hd]
    go_enter Try.func23, Try.ntmps23
    go_wp2_with fail
    refine (lacks_other bd j n0 a0 i0 acked _ _ n a i seq view _ hn0 ha0 hi0 hn ha hi he (hD.below (hbel _ _))).mono ?_
    rintro e w' ⟨rfl, hb⟩
    go_wp2
    go_ret
    exact ⟨ret_bool (by simp [lacksB]), (hbel _ _).trans (hb.mono (hbel _ _).size)⟩

set_option maxHeartbeats 400000 in
/-- ZZLacks, of no digest. -/
theorem zzlacks_nil (n a : ByteArray) (i : Int) (n' a' : ByteArray) (i' seq view : Int) (w : World) :
    Calls Try.prog 23 #[.pointer none, .agg #[.string n, .string a, .int .u64 i], .agg #[.string n', .string a', .int .u64 i', .int .u64 seq, .int .u64 view, .int .u64 0, .slice none 0 0, .slice none 0 0, .int .u64 0, .slice none 0 0]] w fun e w' =>
      e = .returned (.bool true) ∧ Below w.heap.size w w' := by
  have hbel : ∀ o1 o2, Below w.heap.size w ((w.alloc o1).alloc o2) := fun o1 o2 => ((Below.refl _ _).alloc (Nat.le_refl _) _).alloc (by simp) _
  go_enter Try.func23, Try.ntmps23
  go_wp2_with fail
  refine (lacks_nil n a i n' a' i' seq view _).mono ?_
  rintro e w' ⟨rfl, hb⟩
  go_wp2
  go_ret
  exact ⟨rfl, (hbel _ _).trans (hb.mono (hbel _ _).size)⟩
end Go.Proofs.Qxb6602992a
