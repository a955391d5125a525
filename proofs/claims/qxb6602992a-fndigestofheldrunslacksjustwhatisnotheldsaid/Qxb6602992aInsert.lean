/-
  slices.Insert at []uint64: one number into a row of the call's own, ahead of its end.
-/
import Derived.Test.Qxb6602992aSl
import Derived.Lib.Overlaps
import Derived.Lib.AppendZerosOnto
import Derived.Laws.CopyRow
import Derived.Laws.CopyOwn
import Derived.Deep.RegionLaw
namespace Go.Proofs.Qxb6602992a
open Go.RowKit

/-- The operation 'copy' in a plain region, its run known. -/
theorem wpList_copy_known {P : Program} (w : World) {ops : Array Oper} {rest : List Oper} {o : Oper} {a : Act} {Q : Exit → Act → World → Prop} (hgd : o.guard = none) (d s : Operand) (t t' : TypeId)
    (ho : o.op = .call { callee := .builtin .copy, args := #[d, s], argTypes := #[t, t'] }) (v u : Value) (hd : a.eval d = v) (hs : a.eval s = u) {v' : Value} {w' : World}
    (hr : (Builtin.copy_ #[t, t'] o.type #[v, u]).run P w = .ok v' w') (h : wpList P ops Q rest (a.put o.dst v') w') : wpList P ops Q (o :: rest) a w := by
  refine wpList_plain hgd fun _ hK => ?_
  unfold Oper.wp execOp
  simp only [ho, resolve, invoke, builtin, Sem.run_bind, Sem.run_pure, Result.andThen_ok, List.map_toArray, List.map_cons, List.map_nil, hd, hs, hr]
  exact hK _ _ h
/-- .. and in a region that draws its order. -/
theorem step_copy_known {P : Program} {ops : Array Oper} {o : Oper} {a : Act} {w : World} {K : Act → World → Prop} {Q : Exit → Act → World → Prop} {E : Prop} (hgd : o.guard = none) (d s : Operand) (t t' : TypeId)
    (ho : o.op = .call { callee := .builtin .copy, args := #[d, s], argTypes := #[t, t'] }) (v u : Value) (hd : a.eval d = v) (hs : a.eval s = u) {v' : Value} {w' : World}
    (hr : (Builtin.copy_ #[t, t'] o.type #[v, u]).run P w = .ok v' w') (h : K (a.put o.dst v') w') : if Region.wanted o (yielded ops a.tmps) = true then Oper.wp P o a w K Q else E := by
  rw [if_pos (show Region.wanted o (yielded ops a.tmps) = true by simp [Region.wanted, hgd])]
  unfold Oper.wp execOp
  simp only [ho, resolve, invoke, builtin, Sem.run_bind, Sem.run_pure, Result.andThen_ok, List.map_toArray, List.map_cons, List.map_nil, hd, hs, hr]
  exact h

theorem sizeI (w : World) : (Go.sizeOf 23).run Try.prog w = .ok 1 w := by kernel_rfl
theorem infoI : (Try.prog.info? 23).map (·.size) = some 1 := by kernel_rfl

theorem add0 (g j : Nat) : (⟨g, 0, none⟩ : Addr).add j = ⟨g, j, none⟩ := by
  have := WideShapes.add_plain g 0 j
  simpa using this

theorem ins_room {α : Type} (C D : List α) (n i : Nat) (X : α) (hi : i < n) (hn : n + 1 ≤ C.length) (hD : D = C.take (i + 1) ++ (C.take n).drop i ++ C.drop (i + 1 + ((C.take n).drop i).length)) :
    D.take i ++ [X] ++ D.drop (i + 1) = (C.take n).take i ++ [X] ++ (C.take n).drop i ++ C.drop (n + 1) := by
  have h1 : (C.take (i + 1)).length = i + 1 := by simp; omega
  have h2 : i + 1 + ((C.take n).drop i).length = n + 1 := by simp; omega
  rw [h2] at hD
  have h3 : D.take i = (C.take n).take i := by
    rw [hD, List.append_assoc, List.take_append_of_le_length (by omega), List.take_take, List.take_take]
    congr 1; omega
  have h4 : D.drop (i + 1) = (C.take n).drop i ++ C.drop (n + 1) := by
    rw [hD, List.append_assoc, List.drop_left' h1]
  rw [h3, h4]; simp

set_option maxHeartbeats 4000000 in
set_option maxRecDepth 100000 in
/-- There is room. -/
theorem insert_room (g n c i vb : Nat) (cur : Array Value) (x : Int) (w : World) (hg : w.heap[g]? = some (.cells cur 23 (0, 0))) (hcs : cur.size = c) (hv : w.heap[vb]? = some (.cells #[.int .u64 x] 23 (0, 0))) (hvg : vb ≠ g) (hi : i < n) (hroom : n + 1 ≤ c) (hc63 : c ≤ 9223372036854775807)
    (hone : ∀ u ∈ cur.toList.take n, u.oneCell' = true) :
    Calls Try.prog 43 #[.slice (some ⟨g, 0, none⟩) n c, .int .i64 i, .slice (some ⟨vb, 0, none⟩) 1 1] w fun e w' => e = .returned (.slice (some ⟨g, 0, none⟩) (n + 1) c) ∧ ∃ new : Array Value, w'.heap[g]? = some (.cells new 23 (0, 0)) ∧ new.size = c ∧
      new.toList.take (n + 1) = (cur.toList.take n).take i ++ [.int .u64 x] ++ (cur.toList.take n).drop i ∧ w.grownBy w' (some g) := by
  have hov : ∀ lb cb, (callFunc 46 #[.slice (some ⟨vb, 0, none⟩) 1 1, .slice (some ⟨g, i + 1, none⟩) lb cb]).run Try.prog w = .ok (.value (.bool false)) w := fun lb cb => by
    rw [run_callFunc_extern Try.func46 (by kernel_rfl) (by kernel_rfl) (by kernel_rfl) (e := Extern.SlicesOverlaps.overlaps #[22, 22] #[4]) (by kernel_rfl),
      Lib.run_overlaps_apart w 22 4 23 Try.underlying22 1 sizeI ⟨vb, 0, none⟩ ⟨g, i + 1, none⟩ 1 1 lb cb hvg 23 23 1 c (by simp [World.shape?, hv]) (by simp [World.shape?, hg, hcs]) (by omega) (frozen_of_row w vb 0 _ _ hv) (frozen_of_row w vb 1 _ _ hv)]
    rfl
  obtain ⟨xs, hxs⟩ : ∃ xs, xs = cur.toList.take n := ⟨_, rfl⟩
  have hxl : xs.length = n := by rw [hxs]; simp; omega
  have hxc : ∀ j u, xs[j]? = some u → w.cell? ⟨g, j, none⟩ = some u := fun j u hj => by
    rw [cell_of_row w g j cur 23 (0, 0) hg]
    rw [hxs, List.getElem?_take] at hj
    split at hj
    · simpa using hj
    · cases hj
  rw [← hxs] at hone ⊢
  obtain ⟨c1, hc1⟩ : ∃ c1 : Array Value, c1 = (cur.toList.take (i + 1) ++ xs.drop i ++ cur.toList.drop (i + 1 + (xs.drop i).length)).toArray := ⟨_, rfl⟩
  have hdl : (xs.drop i).length = n - i := by rw [List.length_drop, hxl]
  have hcp1 : ∀ ty dc sc, (Builtin.copy_ #[22, 22] ty #[.slice (some ⟨g, i + 1, none⟩) (n - i) dc, .slice (some ⟨g, i, none⟩) (n + 1 - i) sc]).run Try.prog w.drew = .ok (goInt (xs.drop i).length) (w.drew.setRow g c1) := fun ty dc sc => by
    rw [hc1]
    exact run_copy_row Try.prog w.drew 22 22 ty 23 g (i + 1) _ dc ⟨g, i, none⟩ _ sc cur 23 (xs.drop i) Try.underlying22 infoI hg (by rw [hdl]; simp only [Nat.min_def]; split <;> omega)
      (fun j u hj => by rw [WideShapes.add_plain]; exact hxc (i + j) u (by rwa [List.getElem?_drop] at hj)) (by rw [hdl, hcs]; omega) (fun u hu => hone u (List.mem_of_mem_drop hu))
  obtain ⟨W1, hW1⟩ : ∃ W1, W1 = w.drew.setRow g c1 := ⟨_, rfl⟩
  have hg1 : W1.heap[g]? = some (.cells c1 23 (0, 0)) := by rw [hW1]; exact setRow_heap w.drew g cur c1 23 (0, 0) hg
  have hv1 : W1.cell? ⟨vb, 0, none⟩ = some (.int .u64 x) := by rw [hW1, cell_setRow_other _ _ _ _ hvg]; exact (cell_of_row w vb 0 _ _ _ hv)
  have hc1t : c1.toList = cur.toList.take (i + 1) ++ xs.drop i ++ cur.toList.drop (i + 1 + (xs.drop i).length) := by rw [hc1]
  have hc1s : c1.size = c := by
    have := congrArg List.length hc1t
    simp [hxl, hcs] at this
    omega
  obtain ⟨c2, hc2⟩ : ∃ c2 : Array Value, c2 = (c1.toList.take i ++ [Value.int .u64 x] ++ c1.toList.drop (i + 1)).toArray := ⟨_, rfl⟩
  have hcp2 : ∀ (W : World), W.heap[g]? = W1.heap[g]? → (∀ a, W.cell? a = W1.cell? a) → ∀ ty dc, (Builtin.copy_ #[22, 22] ty #[.slice (some ⟨g, i, none⟩) (n + 1 - i) dc, .slice (some ⟨vb, 0, none⟩) 1 1]).run Try.prog W = .ok (goInt 1) (W.setRow g c2) := fun W hWg hWc ty dc => by
    rw [hc2]
    exact run_copy_row Try.prog W 22 22 ty 23 g i _ dc ⟨vb, 0, none⟩ 1 1 c1 23 [Value.int .u64 x] Try.underlying22 infoI (hWg.trans hg1) (by simp only [Nat.min_def, List.length_singleton]; split <;> omega)
      (fun j u hj => by
        match j, hj with
        | 0, hj => simp at hj; subst hj; rw [add0, hWc]; exact hv1) (by simp; omega) (by intro u hu; simp at hu; subst hu; rfl)
  rw [← hW1] at hcp1
  have hw1 : IntKind.i64.wrap ((i : Int) + 1) = (i : Int) + 1 := by rw [IntKind.wrap_i64]; omega
  have hb1 : (0 : Int) ≤ (i : Int) + 1 := by omega
  have hb2 : (i : Int) ≤ (n : Int) := by omega
  have hb3 : (i : Int) ≤ (n : Int) + 1 := by omega
  have htn : ((i : Int) + 1).toNat = i + 1 := by omega
  have hb4 : ¬ (c = i + 1) := by omega
  have hb5 : ¬ (c = i) := by omega
  have HW1 : Hid (W1 = w.drew.setRow g c1) := hW1
  have HC2 : Hid (c2 = (c1.toList.take i ++ [Value.int .u64 x] ++ c1.toList.drop (i + 1)).toArray) := hc2
  have HXS : Hid (xs = cur.toList.take n) := hxs
  have HC1 : Hid (c1.toList = cur.toList.take (i + 1) ++ xs.drop i ++ cur.toList.drop (i + 1 + (xs.drop i).length)) := hc1t
  have HC1S : Hid (c1.size = c) := hc1s
  clear hW1 hc2 hxs hc1 hc1t hc1s hxl hdl
  go_enter Try.func43, Try.ntmps43
  go_wp2_with (simp only [hov])
  go_region_law (refine step_copy_known rfl _ _ 22 22 rfl _ _ (by simp [Act.eval, Act.put]) (by simp [Act.eval, Act.put]) (hcp1 _ _ _) ?_)
  go_wp2_with (at_builtin; refine wpList_copy_known _ rfl _ _ 22 22 rfl _ _ rfl rfl (hcp2 _ rfl (fun _ => rfl) _ _) ?_)
  go_ret
  have hxs := HXS.out
  have hc1t := HC1.out
  have hc1s := HC1S.out
  have hxl : xs.length = n := by rw [hxs]; simp; omega
  refine ⟨rfl, c2, ?_, ?_, ?_, ?_⟩
  · exact setRow_heap W1 g c1 c2 23 (0, 0) hg1
  · rw [HC2.out]; simp; omega
  · have h := ins_room cur.toList c1.toList n i (Value.int .u64 x) hi (by simp; omega) (by rw [← hxs]; exact hc1t)
    rw [HC2.out, List.toList_toArray, h, ← hxs]
    have hl : (xs.take i ++ [Value.int .u64 x] ++ xs.drop i).length = n + 1 := by simp [hxl]; omega
    rw [List.take_left' hl]
  · rw [HW1.out]
    exact ⟨rfl, rfl, rfl, by simp, fun k _ hk => by rw [setRow_other _ _ _ _ (fun e => hk (by rw [e])), setRow_other _ _ _ _ (fun e => hk (by rw [e]))]; rfl⟩
end Go.Proofs.Qxb6602992a
