/-
  slices.Insert at []uint64: one number into a row without room, ahead of its end: a new row.
-/
import Derived.Test.Qxb6602992aInsert
import Derived.Lib.AppendZeros
namespace Go.Proofs.Qxb6602992a
open Go.RowKit

/-- The append of a make in a plain region, its run known. -/
theorem wpList_append_known {P : Program} (w : World) {ops : Array Oper} {rest : List Oper} {o : Oper} {a : Act} {Q : Exit → Act → World → Prop} (hgd : o.guard = none) (d s : Operand) (t t' : TypeId)
    (ho : o.op = .call { callee := .builtin .append, args := #[d, s], argTypes := #[t, t'] }) (v u : Value) (hd : a.eval d = v) (hs : a.eval s = u) {v' : Value} {w' : World}
    (hr : (Builtin.append_ #[t, t'] o.type #[v, u]).run P w = .ok v' w') (h : wpList P ops Q rest (a.put o.dst v') w') : wpList P ops Q (o :: rest) a w := by
  refine wpList_plain hgd fun _ hK => ?_
  unfold Oper.wp execOp
  simp only [ho, resolve, invoke, builtin, Sem.run_bind, Sem.run_pure, Result.andThen_ok, List.map_toArray, List.map_cons, List.map_nil, hd, hs, hr]
  exact hK _ _ h

theorem ins_grow {α : Type} (xs R A B : List α) (n i G : Nat) (X : α) (hi : i < n) (hn : xs.length = n) (hR : R.take i = xs.take i) (hl : R.length = G) (hG : n + 1 ≤ G) (hA : A = R.take i ++ [X] ++ R.drop (i + 1)) (hB : B = A.take (i + 1) ++ xs.drop i ++ A.drop (i + 1 + (xs.drop i).length)) :
    B.length = G ∧ B.take (n + 1) = xs.take i ++ [X] ++ xs.drop i := by
  have h1 : (R.take i).length = i := by simp; omega
  have h2 : A.take (i + 1) = xs.take i ++ [X] := by
    rw [hA, ← hR]
    exact List.take_left' (by simp; omega)
  have hAl : A.length = G := by rw [hA]; simp; omega
  have hd : (xs.drop i).length = n - i := by simp; omega
  rw [h2] at hB
  refine ⟨by rw [hB]; simp; omega, ?_⟩
  rw [hB]
  exact List.take_left' (by simp; omega)

set_option maxHeartbeats 4000000 in
set_option maxRecDepth 100000 in
/-- There is no room. -/
theorem insert_grow (g n c i vb : Nat) (cur : Array Value) (x : Int) (w : World) (hg : w.heap[g]? = some (.cells cur 23 (0, 0))) (hcs : cur.size = c) (hv : w.heap[vb]? = some (.cells #[.int .u64 x] 23 (0, 0))) (hi : i < n) (hnc : n ≤ c) (hroom : c < n + 1) (hn : n ≤ 1048576)
    (hone : ∀ u ∈ cur.toList.take n, u.oneCell' = true) :
    Calls Try.prog 43 #[.slice (some ⟨g, 0, none⟩) n c, .int .i64 i, .slice (some ⟨vb, 0, none⟩) 1 1] w fun e w' => ∃ G, e = .returned (.slice (some ⟨w.heap.size, 0, none⟩) (n + 1) G) ∧ ∃ new : Array Value, w'.heap[w.heap.size]? = some (.cells new 23 (0, 0)) ∧ new.size = G ∧ n + 1 ≤ G ∧ G ≤ maxLen ∧
      new.toList.take (n + 1) = (cur.toList.take n).take i ++ [.int .u64 x] ++ (cur.toList.take n).drop i ∧ w.grownBy w' none := by
  obtain ⟨i0, hi0, hz0, hzs, hzb⟩ := info_parts Try.info23
  have hgw : g < w.heap.size := (Array.getElem?_eq_some_iff.1 hg).1
  have hvw : vb < w.heap.size := (Array.getElem?_eq_some_iff.1 hv).1
  obtain ⟨xs, hxs⟩ : ∃ xs, xs = cur.toList.take n := ⟨_, rfl⟩
  have hxl : xs.length = n := by rw [hxs]; simp; omega
  have hxc : ∀ j u, xs[j]? = some u → w.cell? ⟨g, j, none⟩ = some u := fun j u hj => by
    rw [cell_of_row w g j cur 23 (0, 0) hg]
    rw [hxs, List.getElem?_take] at hj
    split at hj
    · simpa using hj
    · cases hj
  rw [← hxs] at hone ⊢
  have hold : (Builtin.firstCells i0.size i (.slice (some ⟨g, 0, none⟩) i c)).run Try.prog w.drew = .ok (xs.take i).toArray w.drew := by
    rw [hzs]
    exact run_firstCells_some w.drew 1 i ⟨g, 0, none⟩ i c (xs.take i) (by rw [List.length_take]; omega) (fun j u hj => by
      rw [add0]
      rw [List.getElem?_take] at hj
      split at hj
      · exact hxc j u hj
      · cases hj)
  have hkk : (n : Int) + 1 - (i : Int) = ((n + 1 - i : Nat) : Int) := by omega
  have hik : i + (n + 1 - i) = n + 1 := by omega
  obtain ⟨G, hG⟩ : ∃ G, G = grownCap w (n + 1) c 23 := ⟨_, rfl⟩
  obtain ⟨R, hR⟩ : ∃ R : Array Value, R = (xs.take i).toArray ++ Builtin.zeroCells (Value.int .u64 0).cells (n + 1 - i) ++ Builtin.zeroCells (Value.int .u64 0).cells (G - (n + 1)) := ⟨_, rfl⟩
  have hrz : ∀ ty, (Builtin.append_ #[22, 3] ty #[.slice (some ⟨g, 0, none⟩) i c, .int .i64 ((n : Int) + 1 - (i : Int))]).run Try.prog w =
      .ok (.slice (some ⟨w.heap.size, 0, none⟩) (n + 1) G) (w.drew.alloc (.cells R 23)) := fun ty => by
    have h := Lib.run_append_grow_zeros w 22 3 ty 23 i0 _ .i64 .i64 Try.underlying22 Try.underlying3 hi0 hz0 (some ⟨g, 0, none⟩) i c (xs.take i) hold (n + 1 - i) (by omega) (by omega) (by omega) (by omega) (by rw [hzb]; omega) (by rw [hzb, hik]; exact growslice_fits hroom (by omega))
    rw [hik, ← hG, ← hR] at h
    rw [hkk]
    exact h
  have hGn : n + 1 ≤ G := by rw [hG]; exact grownCap_ge w _ _ _
  have hGm : G ≤ maxLen := by rw [hG]; exact grownCap_le_maxLen w (n + 1) c 23 (by unfold maxLen; omega)
  have hG63 : G ≤ 9223372036854775807 := hGm
  have hRl : R.size = G := by rw [hR]; simp [Builtin.zeroCells, Value.cells]; omega
  have hRt : R.toList.take i = xs.take i := by
    rw [hR]
    simp only [Array.toList_append, List.append_assoc]
    exact List.take_left' (by simp; omega)
  obtain ⟨W1, hW1⟩ : ∃ W1, W1 = w.drew.alloc (.cells R 23) := ⟨_, rfl⟩
  have hN1 : W1.heap[w.heap.size]? = some (.cells R 23 (0, 0)) := by rw [hW1]; exact heap_alloc_new w.drew _
  have hb1 : ∀ k, k < w.heap.size → W1.heap[k]? = w.heap[k]? := fun k hk => by rw [hW1]; exact Below.heap_alloc w.drew _ k hk
  obtain ⟨A, hA⟩ : ∃ A : Array Value, A = (R.toList.take i ++ [Value.int .u64 x] ++ R.toList.drop (i + 1)).toArray := ⟨_, rfl⟩
  have hcpA : ∀ (W : World), (∀ k : Nat, W.heap[k]? = W1.heap[k]?) → ∀ ty dc, (Builtin.copy_ #[22, 22] ty #[.slice (some ⟨w.heap.size, i, none⟩) (n + 1 - i) dc, .slice (some ⟨vb, 0, none⟩) 1 1]).run Try.prog W = .ok (goInt 1) (W.setRow w.heap.size A) := fun W hW ty dc => by
    rw [hA]
    exact run_copy_row Try.prog W 22 22 ty 23 w.heap.size i _ dc ⟨vb, 0, none⟩ 1 1 R 23 [Value.int .u64 x] Try.underlying22 infoI ((hW _).trans hN1) (by simp only [Nat.min_def, List.length_singleton]; split <;> omega)
      (fun j u hj => by
        match j, hj with
        | 0, hj => simp at hj; subst hj; rw [add0, cell_of_row W vb 0 _ _ _ ((hW vb).trans ((hb1 vb hvw).trans hv))]; rfl) (by simp; omega) (by intro u hu; simp at hu; subst hu; rfl)
  obtain ⟨B, hB⟩ : ∃ B : Array Value, B = (A.toList.take (i + 1) ++ xs.drop i ++ A.toList.drop (i + 1 + (xs.drop i).length)).toArray := ⟨_, rfl⟩
  have hdl : (xs.drop i).length = n - i := by rw [List.length_drop, hxl]
  have hAs : A.size = G := by rw [hA]; simp; omega
  have hcpB : ∀ (W : World), W.heap[w.heap.size]? = some (.cells A 23 (0, 0)) → W.heap[g]? = w.heap[g]? → ∀ ty dc sc, (Builtin.copy_ #[22, 22] ty #[.slice (some ⟨w.heap.size, i + 1, none⟩) (n - i) dc, .slice (some ⟨g, i, none⟩) (n - i) sc]).run Try.prog W = .ok (goInt (xs.drop i).length) (W.setRow w.heap.size B) := fun W hWN hWg ty dc sc => by
    rw [hB]
    exact run_copy_row Try.prog W 22 22 ty 23 w.heap.size (i + 1) _ dc ⟨g, i, none⟩ _ sc A 23 (xs.drop i) Try.underlying22 infoI hWN (by rw [hdl]; simp only [Nat.min_def]; split <;> omega)
      (fun j u hj => by
        rw [WideShapes.add_plain]
        have := hxc (i + j) u (by rwa [List.getElem?_drop] at hj)
        rw [← this]
        exact World.cell?_of_block (w := w) hWg) (by rw [hdl, hAs]; omega) (fun u hu => hone u (List.mem_of_mem_drop hu))
  have hfin := ins_grow xs R.toList A.toList B.toList n i G (Value.int .u64 x) hi hxl hRt (by simpa using hRl) hGn (by rw [hA]) (by rw [hB])
  have hw1 : IntKind.i64.wrap ((i : Int) + 1) = (i : Int) + 1 := by rw [IntKind.wrap_i64]; omega
  have hi1 : (0 : Int) ≤ (i : Int) + 1 := by omega
  have hi2 : (i : Int) ≤ (n : Int) := by omega
  have hi3 : (i : Int) ≤ (n : Int) + 1 := by omega
  have htn : ((i : Int) + 1).toNat = i + 1 := by omega
  have hi4 : ¬ (c = i + 1) ∨ True := .inr trivial
  have hi5 : ¬ (c = i) := by omega
  have hi6 : ¬ (G = i) := by omega
  have hi7 : ¬ (G = i + 1) := by omega
  rw [← hW1] at hrz
  have HW1 : Hid (W1 = w.drew.alloc (.cells R 23)) := hW1
  have HF : Hid (B.toList.length = G ∧ B.toList.take (n + 1) = xs.take i ++ [Value.int .u64 x] ++ xs.drop i) := hfin
  have HA : Hid (A.size = G) := hAs
  have hsz : W1.heap.size = w.heap.size + 1 := by rw [hW1]; simp
  have HSZ : Hid (W1.heap.size = w.heap.size + 1) := hsz
  have hcpB' : ∀ ty dc sc, (Builtin.copy_ #[22, 22] ty #[.slice (some ⟨w.heap.size, i + 1, none⟩) (n - i) dc, .slice (some ⟨g, i, none⟩) (n - i) sc]).run Try.prog (W1.setRow w.heap.size A).drew = .ok (goInt (xs.drop i).length) ((W1.setRow w.heap.size A).drew.setRow w.heap.size B) :=
    hcpB _ (setRow_heap W1 w.heap.size R A 23 (0, 0) hN1) ((setRow_other W1 w.heap.size g A (by omega)).trans (hb1 g hgw))
  have Hb1 : Hid (∀ k, k < w.heap.size → W1.heap[k]? = w.heap[k]?) := hb1
  have HN1 : Hid (W1.heap[w.heap.size]? = some (.cells R 23 (0, 0))) := hN1
  clear hcpB hW1 hfin hA hB hR hG hRl hRt hdl hAs hkk hik hold hxs hxl hi4 hsz hb1 hN1
  go_enter Try.func43, Try.ntmps43
  go_wp2_with (first | (at_builtin; refine wpList_append_known _ rfl _ _ 22 3 rfl _ _ rfl rfl (hrz _) ?_) | (at_builtin; refine wpList_copy_known _ rfl _ _ 22 22 rfl _ _ rfl rfl (hcpA _ (fun _ => rfl) _ _) ?_))
  go_region_law (refine step_copy_known rfl _ _ 22 22 rfl _ _ (by simp [Act.eval, Act.put]) (by simp [Act.eval, Act.put]) (hcpB' _ _ _) ?_)
  go_wp2
  go_ret
  refine ⟨G, rfl, B, ?_, by simpa using HF.out.1, hGn, hGm, HF.out.2, ?_⟩
  · exact setRow_heap (W1.setRow w.heap.size A).drew w.heap.size A B 23 (0, 0) (setRow_heap W1 w.heap.size R A 23 (0, 0) HN1.out)
  · have e := HW1.out
    refine ⟨by rw [e]; rfl, by rw [e]; rfl, by rw [e]; rfl, by simp [HSZ.out], fun k hk _ => ?_⟩
    rw [setRow_other _ _ _ _ (by omega)]
    show (W1.setRow w.heap.size A).heap[k]? = _
    rw [setRow_other _ _ _ _ (by omega)]
    exact Hb1.out k hk

/-- slices.Insert into a row that the call owns, ahead of its end. -/
theorem insert_own (base g n c i vb : Nat) (xs : List Value) (x : Int) (w : World) (hown : w.ownsRow base 23 1 (.slice (some ⟨g, 0, none⟩) n c) n xs) (hb : base ≤ w.heap.size) (hv : w.heap[vb]? = some (.cells #[.int .u64 x] 23 (0, 0))) (hvg : vb ≠ g) (hi : i < n) (hn : n ≤ 1048576) (hone : ∀ u ∈ xs, u.oneCell' = true) :
    Calls Try.prog 43 #[.slice (some ⟨g, 0, none⟩) n c, .int .i64 i, .slice (some ⟨vb, 0, none⟩) 1 1] w fun e w' => ∃ g' c', e = .returned (.slice (some ⟨g', 0, none⟩) (n + 1) c') ∧ w'.ownsRow base 23 1 (.slice (some ⟨g', 0, none⟩) (n + 1) c') (n + 1) (xs.take i ++ [.int .u64 x] ++ xs.drop i) ∧ w.grownBy w' (some g) := by
  rcases hown.2 with ⟨h', _⟩ | ⟨g0, cap0, cur, h', hbg, hg, hnc, hcm, hcs, htake⟩
  · simp at h'
  · simp only [Value.slice.injEq, Option.some.injEq, Addr.mk.injEq, and_true, true_and] at h'
    obtain ⟨rfl, rfl⟩ := h'
    rw [Nat.mul_one] at hcs htake
    have hxl : xs.length = n := by have := hown.1; omega
    have hl : (xs.take i ++ [Value.int .u64 x] ++ xs.drop i).length = (n + 1) * 1 := by simp [hxl]; omega
    have hcm' : c ≤ 9223372036854775807 := hcm
    by_cases hroom : n + 1 ≤ c
    · refine (insert_room g n c i vb cur x w hg hcs hv hvg hi hroom hcm' (by rw [htake]; exact hone)).mono ?_
      rintro e w' ⟨rfl, new, h1, h2, h3, h4⟩
      refine ⟨g, c, rfl, ⟨hl, .inr ⟨g, c, new, rfl, hbg, h1, hroom, hcm, by omega, ?_⟩⟩, h4⟩
      rw [Nat.mul_one, h3, htake]
    · refine (insert_grow g n c i vb cur x w hg hcs hv hi hnc (by omega) hn (by rw [htake]; exact hone)).mono ?_
      rintro e w' ⟨G, rfl, new, h1, h2, h3, h4, h5, h6⟩
      refine ⟨w.heap.size, G, rfl, ⟨hl, .inr ⟨w.heap.size, G, new, rfl, hb, h1, h3, h4, by omega, ?_⟩⟩, ⟨h6.os, h6.tape, h6.output, h6.size, fun k hk _ => h6.block k hk (by simp)⟩⟩
      rw [Nat.mul_one, h5, htake]
end Go.Proofs.Qxb6602992a
