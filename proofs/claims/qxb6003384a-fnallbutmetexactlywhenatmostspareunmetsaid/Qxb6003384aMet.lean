/-
  The conditions of a walk: zzIDs, zzMet at a leaf and at a node of leaves, and AllBut.
-/
import Derived.Test.Qxb6003384aSl
namespace Go.Proofs.Qxb6003384a
open Go.RowKit

/-- A flat list of cells, three a condition: the first k are id conditions of ss. -/
def RowsC (ss : List ByteArray) (k : Nat) (xs : List Value) : Prop :=
  ∀ i, i < k → xs[i * 3]? = some (.string (ss.getD i ByteArray.empty)) ∧ xs[i * 3 + 1]? = some (.int .i64 0) ∧ xs[i * 3 + 2]? = some (.slice none 0 0)

theorem RowsC.step {ss : List ByteArray} {k : Nat} {xs : List Value} (h : RowsC ss k xs) (hk : k * 3 + 2 < xs.length) :
    RowsC ss (k + 1) (((xs.set (k * 3) (.string (ss.getD k ByteArray.empty))).set (k * 3 + 1) (.int .i64 0)).set (k * 3 + 2) (.slice none 0 0)) := by
  intro i hi
  by_cases e : i = k
  · subst e
    simp only [List.getElem?_set, List.length_set]
    refine ⟨?_, ?_, ?_⟩
    · rw [if_neg (by omega), if_neg (by omega), if_pos trivial, if_pos (by omega)]
    · rw [if_neg (by omega), if_pos trivial, if_pos (by omega)]
    · rw [if_pos trivial, if_pos (by omega)]
  · obtain ⟨h1, h2, h3⟩ := h i (by omega)
    simp only [List.getElem?_set]
    refine ⟨?_, ?_, ?_⟩
    · rw [if_neg (by omega), if_neg (by omega), if_neg (by omega)]; exact h1
    · rw [if_neg (by omega), if_neg (by omega), if_neg (by omega)]; exact h2
    · rw [if_neg (by omega), if_neg (by omega), if_neg (by omega)]; exact h3

/-- A slice of conditions at 'ao' reads as the id conditions of ss. -/
def Rc (w : World) (ao : Option Addr) (ss : List ByteArray) : Prop :=
  ∀ i, i < ss.length → ∃ g, ao = some ⟨g, 0, none⟩ ∧ g < w.heap.size ∧ w.cell? ⟨g, i * 3, none⟩ = some (.string (ss.getD i ByteArray.empty)) ∧ w.cell? ⟨g, i * 3 + 1, none⟩ = some (.int .i64 0) ∧ w.cell? ⟨g, i * 3 + 2, none⟩ = some (.slice none 0 0)

theorem Rc.below {w w' : World} {ao : Option Addr} {ss : List ByteArray} (h : Rc w ao ss) (hb : Below w.heap.size w w') : Rc w' ao ss := by
  intro i hi
  obtain ⟨g, h1, h2, h3, h4, h5⟩ := h i hi
  exact ⟨g, h1, Nat.lt_of_lt_of_le h2 hb.size, (hb.cell (p := ⟨g, i * 3, none⟩) h2).trans h3, (hb.cell (p := ⟨g, i * 3 + 1, none⟩) h2).trans h4, (hb.cell (p := ⟨g, i * 3 + 2, none⟩) h2).trans h5⟩

theorem Rc.of_owns {w : World} {base g cap n : Nat} {ss : List ByteArray} {xs : List Value} (h : w.ownsRow base 30 3 (.slice (some ⟨g, 0, none⟩) n cap) n xs) (hn : ss.length = n) (hx : RowsC ss n xs) : Rc w (some ⟨g, 0, none⟩) ss := by
  intro i hi
  obtain ⟨h1, h2, h3⟩ := hx i (by omega)
  refine ⟨g, rfl, (h.lt g rfl).2, ?_, ?_, ?_⟩
  · rw [h.cellAt _ (by omega)]; exact h1
  · rw [h.cellAt _ (by omega)]; exact h2
  · rw [h.cellAt _ (by omega)]; exact h3

theorem Try.info30 : (Try.prog.info? 30).map (fun i => (i.zero, i.size, i.bytes)) = some (some (.agg #[.string ByteArray.empty, .int .i64 0, .slice none 0 0]), 3, 48) := by kernel_rfl

set_option maxHeartbeats 400000 in
theorem ids_nil (w : World) : Calls Try.prog 7 #[.slice none 0 0] w fun e w' => e = .returned (.slice none 0 0) ∧ w = w' := by
  have hn := fun wx a n c => Lib.run_eql_slice_nil (P := Try.prog) wx 22 9 a n c 0 0 Try.underlying22
  go_enter Try.func7, Try.ntmps7
  go_wp2
  go_ret
  exact ⟨rfl, rfl⟩

set_option maxHeartbeats 400000 in
theorem ids_some (a : Addr) (len cap : Nat) (zs : List ByteArray) (w : World) (hlen : zs.length = len) (hl : len ≤ 1048576) (h : Rs w (some a) zs) :
    Calls Try.prog 7 #[.slice (some a) len cap] w fun e w' => e = .returned (.slice (some ⟨w.heap.size, 0, none⟩) len len) ∧ Rc w' (some ⟨w.heap.size, 0, none⟩) zs ∧ Below w.heap.size w w' := by
  have hn := fun wx a n c => Lib.run_eql_slice_nil (P := Try.prog) wx 22 9 a n c 0 0 Try.underlying22
  obtain ⟨i0, hi, hz0, hz1, hz2⟩ := info_parts Try.info30
  go_enter Try.func7, Try.ntmps7
  go_wp2_with (at_make; refine wpList_make_full _ rfl _ _ 26 rfl w.heap.size 30 i0 (.agg #[.string ByteArray.empty, .int .i64 0, .slice none 0 0]) 3 Try.underlying26 hi hz0 hz1 _ _ _ _ len rfl rfl (by omega) (by omega) ?b2 ?b3 (Nat.le_refl _) ?_)
  case b2 => rw [hz2]; omega
  case b3 => unfold maxLen; omega
  intro w0 hown0 hgrow0
  go_wp2
  go_loopw [4] (fun i wr => ∃ (k : Nat) (xs : List Value), k ≤ len ∧ i = .int .i64 k ∧ wr.ownsRow w.heap.size 30 3 (.slice (some ⟨w.heap.size, 0, none⟩) len len) len xs ∧ Hid (RowsC zs k xs) ∧ Below w.heap.size w wr) (fun i _ => len - (intOf i).toNat)
  case atStart => exact ⟨0, _, Nat.zero_le _, rfl, hown0, fun i hi => by omega, (Below.refl _ _).grown hgrow0 (Nat.le_refl _) (fun k h => by cases h)⟩
  case round =>
    obtain ⟨k, xs, hk, rfl, hown, hx, hbel⟩ := hrel
    by_cases hlt : k < len
    · obtain ⟨b, off, ea, hb, hc0⟩ := h k (by omega)
      obtain ⟨z, hz⟩ : ∃ z, Hid (z = zs.getD k ByteArray.empty) := ⟨_, rfl⟩
      rw [← hz.out] at hc0
      obtain rfl := Option.some.inj ea
      have hc : wr.cell? ⟨b, off + k, none⟩ = some (.string z) := (hbel.cell (p := ⟨b, off + k, none⟩) hb).trans hc0
      have hxl : k * 3 + 2 < xs.length := by have := hown.1; omega
      have hc0' : wr.cell? ⟨w.heap.size, k * 3, none⟩ = some xs[k * 3] := by rw [hown.cellAt _ (by omega), List.getElem?_eq_getElem (by omega)]
      have hc1' : wr.cell? ⟨w.heap.size, k * 3 + 1, none⟩ = some xs[k * 3 + 1] := by rw [hown.cellAt _ (by omega), List.getElem?_eq_getElem (by omega)]
      have hc2' : wr.cell? ⟨w.heap.size, k * 3 + 2, none⟩ = some xs[k * 3 + 2] := by rw [hown.cellAt _ (by omega), List.getElem?_eq_getElem (by omega)]
      have hf0 : wr.frozen? ⟨w.heap.size, k * 3, none⟩ = false := hown.frozenAt _
      have hf1 : wr.frozen? ⟨w.heap.size, k * 3 + 1, none⟩ = false := hown.frozenAt _
      have hf2 : wr.frozen? ⟨w.heap.size, k * 3 + 2, none⟩ = false := hown.frozenAt _
      obtain ⟨R1, R2⟩ := hown.stored (k * 3) (.string z)
      obtain ⟨R3, R4⟩ := R1.stored (k * 3 + 1) (.int .i64 0)
      obtain ⟨R5, R6⟩ := R3.stored (k * 3 + 2) (.slice none 0 0)
      have hB := ((hbel.grown R2 hbel.size (fun k hk => by cases hk; exact Nat.le_refl _)).grown R4 (by simpa using hbel.size) (fun k hk => by cases hk; exact Nat.le_refl _)).grown R6 (by simpa using hbel.size) (fun k hk => by cases hk; exact Nat.le_refl _)
      have R7 : Hid (RowsC zs (k + 1) (((xs.set (k * 3) (.string z)).set (k * 3 + 1) (.int .i64 0)).set (k * 3 + 2) (.slice none 0 0))) := by
        have := hx.out.step hxl
        rw [← hz.out] at this; exact this
      clear hown h R1 R2 R3 R4 R6
      go_wp2
      go_roundw
      case rel => exact ⟨k + 1, _, by omega, by go_num, R5, R7, hB⟩
      case measure => simp [intOf]; omega
    · go_wp2
      go_ret
      exact ⟨rfl, Rc.of_owns hown hlen (by have : k = len := by omega
                                           subst this; exact hx.out), hbel⟩

theorem ids_any (ao : Option Addr) (len cap : Nat) (zs : List ByteArray) (w : World) (hlen : zs.length = len) (hl : len ≤ 1048576) (h : Rs w ao zs) (hnil : ao = none → len = 0 ∧ cap = 0) :
    Calls Try.prog 7 #[.slice ao len cap] w fun e w' => ∃ ao' cap', e = .returned (.slice ao' len cap') ∧ Rc w' ao' zs ∧ Below w.heap.size w w' := by
  cases ao with
  | none =>
    obtain ⟨rfl, rfl⟩ := hnil rfl
    refine (ids_nil w).mono ?_
    rintro e w' ⟨rfl, rfl⟩
    exact ⟨none, 0, rfl, fun i hi => by omega, Below.refl _ _⟩
  | some a =>
    refine (ids_some a len cap zs w hlen hl h).mono ?_
    rintro e w' ⟨rfl, hr, hb⟩
    exact ⟨_, _, rfl, hr, hb⟩

/-! ### zzMet -/
/-- An id condition is met. -/
def metS (s : ByteArray) (fin : List ByteArray) : Bool := if s.toList == [] then true else inS s fin

set_option maxHeartbeats 400000 in
theorem met_leaf (s : ByteArray) (fo : Option Addr) (fl fc : Nat) (fin : List ByteArray) (w : World) (hfl : fin.length = fl) (hl : fl ≤ 1048576) (hf : Rs w fo fin) :
    Calls Try.prog 8 #[.agg #[.string s, .int .i64 0, .slice none 0 0], .slice fo fl fc] w fun e w' => e = .returned (.bool (metS s fin)) ∧ Below w.heap.size w w' := by
  have hB : ∀ o, Below w.heap.size w (w.alloc o) := fun o => (Below.refl _ _).alloc (Nat.le_refl _) _
  cases hs : (s.toList == []) with
  | true =>
    obtain ⟨g, hg⟩ : ∃ g, Hid (g = metS s fin) := ⟨_, rfl⟩
    rw [← hg.out]
    have hg' : g = true := by rw [hg.out, metS, if_pos hs]
    subst hg'
    go_enter Try.func8, Try.ntmps8
    go_wp2
    go_loopw [5, 6] (fun n i wr => n = .int .i64 0 ∧ i = .int .i64 0 ∧ wr = w.alloc (.cells #[.string s, .int .i64 0, .slice none 0 0] 30)) (fun _ _ _ => 0)
    case atStart => exact ⟨rfl, rfl, rfl⟩
    case round =>
      obtain ⟨rfl, rfl, rfl⟩ := hrel
      go_wp2
      go_ret
      exact ⟨rfl, hB _⟩
  | false =>
    go_enter Try.func8, Try.ntmps8
    go_wp2_with fail
    refine (in_any fo fl fc fin s _ hfl hl (hf.below (hB _))).mono ?_
    rintro e w' ⟨rfl, rfl⟩
    go_wp2
    go_ret
    exact ⟨ret_bool (by rw [metS, hs]; rfl), hB _⟩

/-- How many of the id conditions are met. -/
def cnt (fin : List ByteArray) : List ByteArray → Nat
  | [] => 0
  | z :: zs => (if metS z fin then 1 else 0) + cnt fin zs
theorem cnt_take {fin zs : List ByteArray} {k : Nat} {z : ByteArray} (e : Hid (zs.drop k = z :: zs.drop (k + 1))) : cnt fin (zs.take (k + 1)) = cnt fin (zs.take k) + (if metS z fin then 1 else 0) := by
  have hz : zs.take (k + 1) = zs.take k ++ [z] := by
    have : zs[k]? = some z := by rw [← List.head?_drop, e.out]; rfl
    rw [List.take_add_one, this]; rfl
  rw [hz]
  generalize zs.take k = l
  induction l with
  | nil => simp [cnt]
  | cons a r ih => simp only [List.cons_append, cnt, ih]; omega
theorem cnt_le (fin : List ByteArray) : ∀ zs : List ByteArray, cnt fin zs ≤ zs.length := by
  intro zs
  induction zs with
  | nil => simp [cnt]
  | cons a r ih => simp only [cnt, List.length_cons]; split <;> omega

theorem Rc.at {w : World} {ao : Option Addr} {ss : List ByteArray} (h : Rc w ao ss) {k : Nat} (hk : k < ss.length) :
    ∃ g z, ao = some ⟨g, 0, none⟩ ∧ g < w.heap.size ∧ w.cell? ⟨g, k * 3, none⟩ = some (.string z) ∧ w.cell? ⟨g, k * 3 + 1, none⟩ = some (.int .i64 0) ∧ w.cell? ⟨g, k * 3 + 2, none⟩ = some (.slice none 0 0) ∧ Hid (ss.drop k = z :: ss.drop (k + 1)) := by
  obtain ⟨g, h1, h2, h3, h4, h5⟩ := h k hk
  exact ⟨g, _, h1, h2, h3, h4, h5, drop_getS hk⟩

set_option maxHeartbeats 800000 in
theorem met_node (s : ByteArray) (hs : (s.toList == []) = true) (need : Int) (po : Option Addr) (pl pc : Nat) (ss : List ByteArray) (fo : Option Addr) (fl fc : Nat) (fin : List ByteArray) (w : World)
    (hsl : ss.length = pl) (hpl : pl ≤ 1048576) (hp : Rc w po ss) (hfl : fin.length = fl) (hl : fl ≤ 1048576) (hf : Rs w fo fin) :
    Calls Try.prog 8 #[.agg #[.string s, .int .i64 need, .slice po pl pc], .slice fo fl fc] w fun e w' => e = .returned (.bool (decide (need ≤ (cnt fin ss : Int)))) ∧ Below w.heap.size w w' := by
  go_enter Try.func8, Try.ntmps8
  go_wp2
  have hB : Below w.heap.size w (w.alloc (.cells #[.string s, .int .i64 need, .slice po pl pc] 30)) := (Below.refl _ _).alloc (Nat.le_refl _) _
  have hbx := heap_alloc_new w (.cells #[.string s, .int .i64 need, .slice po pl pc] 30)
  generalize w.alloc (.cells #[.string s, .int .i64 need, .slice po pl pc] 30) = w1 at hB hbx ⊢
  have HX : Hid (w1.heap[w.heap.size]? = some (.cells #[.string s, .int .i64 need, .slice po pl pc] 30 (0, 0))) := hbx
  obtain ⟨B, hBe⟩ : ∃ B, B = w.heap.size := ⟨_, rfl⟩
  rw [← hBe] at HX ⊢
  have HP1 : Hid (Rc w1 po ss) := hp.below hB
  have HF1 : Hid (Rs w1 fo fin) := hf.below hB
  clear hbx hp hf hBe
  go_loopw [5, 6] (fun n i wr => ∃ k : Nat, k ≤ pl ∧ i = .int .i64 k ∧ ∃ c : Nat, n = .int .i64 c ∧ c ≤ k ∧ Hid (c = cnt fin (ss.take k)) ∧ Hid (Below w1.heap.size w1 wr)) (fun _ i _ => pl - (intOf i).toNat)
  case atStart => exact ⟨0, Nat.zero_le _, rfl, 0, rfl, Nat.le_refl _, rfl, Below.refl _ _⟩
  case round =>
    obtain ⟨k, hk, rfl, c, rfl, hck, hc, hb⟩ := hrel
    obtain ⟨w2, rfl⟩ : ∃ w2, w2 = wr := ⟨_, rfl⟩
    have hx : w2.heap[B]? = some (.cells #[.string s, .int .i64 need, .slice po pl pc] 30 (0, 0)) := by rw [hb.out.block _ (Array.getElem?_eq_some_iff.1 HX.out).1]; exact HX.out
    have d1 : w2.cell? ⟨B, 1, none⟩ = some (.int .i64 need) := by rw [cell_of_row _ _ _ _ _ _ hx]; rfl
    have d2 : w2.cell? ⟨B, 2, none⟩ = some (.slice po pl pc) := by rw [cell_of_row _ _ _ _ _ _ hx]; rfl
    have hp2 := HP1.out.below hb.out
    have hf2 := HF1.out.below hb.out
    clear hx
    by_cases hlt : k < pl
    · obtain ⟨g, z, rfl, hg, e0, e1, e2, hd⟩ := hp2.at (k := k) (by omega)
      have HC : Hid (c + (if metS z fin then 1 else 0) = cnt fin (ss.take (k + 1))) := by show _ = _; rw [cnt_take hd, hc.out]
      have HF2 : Hid (Rs w2 fo fin) := hf2
      obtain ⟨m, hm⟩ : ∃ m, Hid (m = metS z fin) := ⟨_, rfl⟩
      have HL : Hid (Calls Try.prog 8 #[.agg #[.string z, .int .i64 0, .slice none 0 0], .slice fo fl fc] w2 fun e w' => e = .returned (.bool m) ∧ Below w2.heap.size w2 w') := by
        rw [hm.out]; exact met_leaf z fo fl fc fin w2 hfl hl hf2
      rw [← hm.out] at HC
      clear hp2 hf2
      go_wp2_with fail
      refine HL.out.mono ?_
      rintro e w3 ⟨rfl, hb3⟩
      have hb13 : Below w1.heap.size w1 w3 := hb.out.trans (hb3.mono hb.out.size)
      clear d1 d2 e0 e1 e2 HL hb3
      cases m with
      | true =>
        go_wp2
        go_roundw
        case rel => exact ⟨k + 1, by omega, by go_num, c + 1, by go_num, by omega, HC.out, hb13⟩
        case measure => simp [intOf]; omega
      | false =>
        go_wp2
        go_roundw
        case rel => exact ⟨k + 1, by omega, by go_num, c, rfl, by omega, HC.out, hb13⟩
        case measure => simp [intOf]; omega
    · have hcc : c = cnt fin ss := by rw [hc.out, List.take_of_length_le (by omega)]
      clear hp2 hf2
      go_wp2
      go_ret
      exact ⟨ret_bool (by rw [← hcc]), hB.trans (hb.out.mono hB.size)⟩

/-! ### AllBut -/
set_option maxHeartbeats 400000 in
theorem allBut_yes (spare : Int) (po : Option Addr) (pl pc : Nat) (w : World) (hpl : pl ≤ 1048576) (h1 : -1048576 ≤ spare) (h2 : spare ≤ 1048576) (h : spare < (pl : Int)) :
    Calls Try.prog 9 #[.int .i64 spare, .slice po pl pc] w fun e w' => e = .returned (.tuple #[.agg #[.string ⟨#[]⟩, .int .i64 ((pl : Int) - spare), .slice po pl pc], .bool true]) ∧ Below w.heap.size w w' := by
  go_enter Try.func9, Try.ntmps9
  go_wp2
  refine bodyPost_ret (v := .tuple #[.agg #[.string ⟨#[]⟩, .int .i64 ((pl : Int) - spare), .slice po pl pc], .bool true]) (by simp [results, Try.results9, go_sem]) rfl ⟨rfl, ?_⟩
  exact (Below.refl _ _).alloc (Nat.le_refl _) _
set_option maxHeartbeats 400000 in
theorem allBut_no (spare : Int) (po : Option Addr) (pl pc : Nat) (w : World) (hpl : pl ≤ 1048576) (h1 : -1048576 ≤ spare) (h2 : spare ≤ 1048576) (h : ¬ spare < (pl : Int)) :
    Calls Try.prog 9 #[.int .i64 spare, .slice po pl pc] w fun e w' => e = .returned (.tuple #[.agg #[.string ⟨#[]⟩, .int .i64 0, .slice none 0 0], .bool false]) ∧ Below w.heap.size w w' := by
  go_enter Try.func9, Try.ntmps9
  go_wp2
  refine bodyPost_ret (v := .tuple #[.agg #[.string ⟨#[]⟩, .int .i64 0, .slice none 0 0], .bool false]) (by simp [results, Try.results9, go_sem]) rfl ⟨rfl, ?_⟩
  exact (Below.refl _ _).alloc (Nat.le_refl _) _
end Go.Proofs.Qxb6003384a
