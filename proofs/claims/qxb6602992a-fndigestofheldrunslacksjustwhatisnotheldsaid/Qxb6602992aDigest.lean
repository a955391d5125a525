/-
  ZZDigest, ZZLacks and (*digest).lacks.
-/
import Derived.Test.Qxb6602992aRunsIn
import Derived.Maps.Own
import Derived.ProofKit
import Derived.Deep.QuietTactic
import Derived.BigQuiet
import Derived.Deep.RegionHeld3
import Derived.Deep.RegionWith
namespace Go.Proofs.Qxb6602992a
open Go.RowKit Go.Maps

theorem laidOutD : laidOutB Try.prog = true := by kernel_rfl
theorem cellsD32 : Try.prog.cellsOf 32 = 3 := by kernel_rfl
theorem cellsD9 : Try.prog.cellsOf 9 = 1 := by kernel_rfl
theorem cellsD23 : Try.prog.cellsOf 23 = 1 := by kernel_rfl
theorem sizeD : Try.prog.types.size = 92 := by kernel_rfl
theorem keyTypeD : Try.prog.keyType 32 = true := by kernel_rfl
/-- A Member is a key. -/
theorem key32 : Keyed Try.prog 32 := Keyed.of_law (deep_law_laid (m := 5) laidOutD (by decide) (of_decide_eq_true (by kernel_rfl)) (by kernel_rfl) (by kernel_rfl))

theorem lits9 (d : Nat) (s : ByteArray) (h : s.size ≤ maxLen) : Try.prog.keyLits (d + 1) 9 [.string s] = some [.string s.data.toList] := by
  simp [Program.keyLits, Try.underlying9, h]
theorem lits23 (d : Nat) (i : Int) (h : (Lit.int .u64 i).wf = true) : Try.prog.keyLits (d + 1) 23 [.int .u64 i] = some [.int .u64 i] := by
  simp [Program.keyLits, Try.underlying23, h]
theorem lits32 (d : Nat) (n a : ByteArray) (i : Int) (hn : n.size ≤ maxLen) (ha : a.size ≤ maxLen) (hi : (Lit.int .u64 i).wf = true) :
    Try.prog.keyLits (d + 2) 32 [.string n, .string a, .int .u64 i] = some [.string n.data.toList, .string a.data.toList, .int .u64 i] := by
  rw [Program.keyLits.eq_def]
  dsimp only
  rw [Try.underlying32]
  simp [cellsD32, cellsD9, cellsD23, lits9 d n hn, lits9 d a ha, lits23 d i hi]

theorem key_mem (n a : ByteArray) (i : Int) (hn : n.size ≤ maxLen) (ha : a.size ≤ maxLen) (hi : (Lit.int .u64 i).wf = true) : ∃ l, keyOf Try.prog 32 (.agg #[.string n, .string a, .int .u64 i]) = some l := by
  have hf : (Value.agg #[.string n, .string a, .int .u64 i]).formed Try.prog 32 = true := by
    simp [Value.formed, Try.underlying32, cellsD32]
  refine ⟨.string (keyBytes [.string n.data.toList, .string a.data.toList, .int .u64 i]), ?_⟩
  unfold keyOf
  rw [Try.underlying32]
  simp only [keyTypeD, hf, Bool.and_self, if_true]
  rw [sizeD, show (92 + 1 : Nat) = 91 + 2 from rfl]
  simp only [Value.cells]
  rw [lits32 91 n a i hn ha hi]
  rfl

/-- What a digest's map holds at the sender. -/
def entD (n a : ByteArray) (i acked : Int) (hv av : Value) : Value := .agg #[.string n, .string a, .int .u64 i, .int .u64 acked, hv, av]

theorem alloc_set (w : World) (o o' : Obj) : ({ (w.alloc o) with heap := (w.alloc o).heap.setIfInBounds w.heap.size o' } : World) = w.alloc o' := by
  have e : (w.heap.push o).setIfInBounds w.heap.size o' = w.heap.push o' := by
    apply Array.ext'
    simp
  show ({ w with heap := (w.heap.push o).setIfInBounds w.heap.size o' } : World) = { w with heap := w.heap.push o' }
  rw [e]

theorem run_ins0 (n a : ByteArray) (i : Int) (hn : n.size ≤ maxLen) (ha : a.size ≤ maxLen) (hi : (Lit.int .u64 i).wf = true) (w : World) (c : Nat) (v : Value) (hc : w.heap.size = c) :
    (Instr.mapUpdate 55 (.map (some c)) (.agg #[.string n, .string a, .int .u64 i]) v).run Try.prog (w.alloc (.map #[] 0)) = .ok () (w.alloc (.map #[⟨.agg #[.string n, .string a, .int .u64 i], v, 0⟩] 1)) := by
  subst hc
  obtain ⟨l, hl⟩ := key_mem n a i hn ha hi
  have hb : (w.alloc (.map #[] 0)).heap[w.heap.size]? = some (.map #[] 0) := heap_alloc_new w _
  have hf : (Instr.findKey 32 (.agg #[.string n, .string a, .int .u64 i]) []).run Try.prog (w.alloc (.map #[] 0)) = .ok none (w.alloc (.map #[] 0)) := by
    rcases key32.find (w.alloc (.map #[] 0)) hl [] (by simp) with ⟨h, _⟩ | ⟨j, e, _, h, _⟩
    · exact h
    · simp at h
  simp [Instr.mapUpdate, run_underlying Try.underlying55, MapKept.run_getObj_map hb, key32.check _ false hl, hf, MapKept.run_setObj_map _ hb, Result.andThen]
  exact alloc_set w _ _

/-- Block bd of w is a digest that speaks of one sender. -/
def IsDig (w : World) (bd : Nat) (j : Int) (n a : ByteArray) (i acked : Int) (hv av : Value) : Prop :=
  ∃ bm, w.heap[bd]? = some (.cells #[.int .u64 j, .slice none 0 0, .bool false, .map (some bm)] 58 (0, 0)) ∧
    w.heap[bm]? = some (.map #[⟨.agg #[.string n, .string a, .int .u64 i], .agg #[.string n, .string a, .int .u64 i, .int .u64 acked, hv, av], 0⟩] 1)

theorem IsDig.below {w w' : World} {bd : Nat} {j : Int} {n a : ByteArray} {i acked : Int} {hv av : Value} (h : IsDig w bd j n a i acked hv av) (hb : Below w.heap.size w w') : IsDig w' bd j n a i acked hv av := by
  obtain ⟨bm, h1, h2⟩ := h
  have l1 : bd < w.heap.size := (Array.getElem?_eq_some_iff.1 h1).1
  have l2 : bm < w.heap.size := (Array.getElem?_eq_some_iff.1 h2).1
  exact ⟨bm, by rw [hb.block _ l1]; exact h1, by rw [hb.block _ l2]; exact h2⟩

set_option maxHeartbeats 400000 in
theorem digest_any (j : Int) (n a : ByteArray) (i acked : Int) (ho : Option Addr) (hl hc : Nat) (vo : Option Addr) (vl vc : Nat) (w : World) (hn : n.size ≤ maxLen) (ha : a.size ≤ maxLen) (hi : (Lit.int .u64 i).wf = true) :
    Calls Try.prog 22 #[.int .u64 j, .agg #[.string n, .string a, .int .u64 i], .int .u64 acked, .slice ho hl hc, .slice vo vl vc] w fun e w' =>
      ∃ bd, e = .returned (.pointer (some ⟨bd, 0, none⟩)) ∧ IsDig w' bd j n a i acked (.slice ho hl hc) (.slice vo vl vc) ∧ Below w.heap.size w w' := by
  have hmm := @run_makeMap Try.prog
  have hins := run_ins0 n a i hn ha hi
  go_enter Try.func22, Try.ntmps22
  go_wp2
  go_ret
  refine ⟨w.heap.size + 1 + 1, rfl, ⟨w.heap.size + 1, ?_, ?_⟩, ?_⟩
  · have := heap_alloc_new ((w.alloc (Obj.cells #[Value.string n, Value.string a, Value.int IntKind.u64 i] 32)).alloc (Obj.map #[⟨.agg #[.string n, .string a, .int .u64 i], .agg #[.string n, .string a, .int .u64 i, .int .u64 acked, .slice ho hl hc, .slice vo vl vc], 0⟩] 1)) (Obj.cells #[Value.int IntKind.u64 j, Value.slice none 0 0, Value.bool false, Value.map (some (w.heap.size + 1))] 58)
    simpa using this
  · rw [Below.heap_alloc _ _ _ (by simp)]
    have := heap_alloc_new (w.alloc (Obj.cells #[Value.string n, Value.string a, Value.int IntKind.u64 i] 32)) (Obj.map #[⟨.agg #[.string n, .string a, .int .u64 i], .agg #[.string n, .string a, .int .u64 i, .int .u64 acked, .slice ho hl hc, .slice vo vl vc], 0⟩] 1)
    simpa using this
  · exact (((Below.refl _ _).alloc (Nat.le_refl _) _).alloc (by simp) _).alloc (by simp; omega) _

theorem zero54 (w : World) : (zeroValue 54).run Try.prog w = .ok (.agg #[.string ByteArray.empty, .string ByteArray.empty, .int .u64 0, .int .u64 0, .slice none 0 0, .slice none 0 0]) w := by kernel_rfl

/-- What a digest's map answers. -/
theorem run_lookD {w : World} {bm : Nat} {n a n' a' : ByteArray} {i i' : Int} {v : Value} (hn : n.size ≤ maxLen) (ha : a.size ≤ maxLen) (hi : (Lit.int .u64 i).wf = true) (hn' : n'.size ≤ maxLen) (ha' : a'.size ≤ maxLen) (hi' : (Lit.int .u64 i').wf = true)
    (hb : w.heap[bm]? = some (.map #[⟨.agg #[.string n, .string a, .int .u64 i], v, 0⟩] 1)) :
    (Instr.lookup 55 (.map (some bm)) (.agg #[.string n', .string a', .int .u64 i']) false).run Try.prog w =
      .ok (if n = n' ∧ a = a' ∧ i = i' then v else .agg #[.string ByteArray.empty, .string ByteArray.empty, .int .u64 0, .int .u64 0, .slice none 0 0, .slice none 0 0]) w := by
  obtain ⟨l, hl⟩ := key_mem n a i hn ha hi
  obtain ⟨l', hl'⟩ := key_mem n' a' i' hn' ha' hi'
  rcases key32.find w hl' (#[(⟨.agg #[.string n, .string a, .int .u64 i], v, 0⟩ : MapEntry)]).toList (by simp [hl]) with ⟨h1, h2⟩ | ⟨j, e, h1, h2, h3⟩
  · have hne : ¬ (n = n' ∧ a = a' ∧ i = i') := by
      rintro ⟨rfl, rfl, rfl⟩
      exact h2 ⟨.agg #[.string n, .string a, .int .u64 i], v, 0⟩ (by simp) rfl
    rw [if_neg hne]
    simp [Instr.lookup, run_underlying Try.underlying55, MapKept.run_getObj_map hb, key32.check w _ hl', h1, Result.andThen]
    rfl
  · have he : e = ⟨.agg #[.string n, .string a, .int .u64 i], v, 0⟩ := by
      have := List.mem_of_getElem? h2
      simpa using this
    subst he
    have heq : n = n' ∧ a = a' ∧ i = i' := by simpa using h3
    rw [if_pos heq]
    simp [Instr.lookup, run_underlying Try.underlying55, MapKept.run_getObj_map hb, key32.check w _ hl', h1, Result.andThen]

set_option maxHeartbeats 1000000 in
/-- lacks, of a digest that speaks of that very sender. -/
theorem lacks_same (bd : Nat) (j : Int) (n a : ByteArray) (i acked : Int) (ho : Option Addr) (hl hc : Nat) (vo : Option Addr) (vl vc : Nat) (hs vs : List Int) (seq view : Int) (w : World) (hn : n.size ≤ maxLen) (ha : a.size ≤ maxLen) (hi : (Lit.int .u64 i).wf = true)
    (hD : IsDig w bd j n a i acked (.slice ho hl hc) (.slice vo vl vc)) (hhl : hs.length = hl) (hvl : vs.length = vl) (hhm : hl ≤ 1048576) (hvm : vl ≤ 1048576) (hh : Rd w ho hs) (hv : Rd w vo vs) :
    Calls Try.prog 39 #[.pointer (some ⟨bd, 0, none⟩), .agg #[.string n, .string a, .int .u64 i], .agg #[.string n, .string a, .int .u64 i, .int .u64 seq, .int .u64 view, .int .u64 0, .slice none 0 0, .slice none 0 0, .int .u64 0, .slice none 0 0]] w fun e w' =>
      e = .returned (.bool (decide (j ≤ view) && !(decide (seq ≤ acked) || inr seq vs || inr seq hs))) ∧ Below w.heap.size w w' := by
  obtain ⟨bm, hb1, hb2⟩ := hD
  have l1 : bd < w.heap.size := (Array.getElem?_eq_some_iff.1 hb1).1
  have l2 : bm < w.heap.size := (Array.getElem?_eq_some_iff.1 hb2).1
  have hc0 : w.cell? ⟨bd, 0, none⟩ = some (.int .u64 j) := by rw [cell_of_row w bd 0 _ _ _ hb1]; rfl
  have hc3 : w.cell? ⟨bd, 3, none⟩ = some (.map (some bm)) := by rw [cell_of_row w bd 3 _ _ _ hb1]; rfl
  have hlook : ∀ wx : World, Below w.heap.size w wx → (Instr.lookup 55 (.map (some bm)) (.agg #[.string n, .string a, .int .u64 i]) false).run Try.prog wx = .ok (.agg #[.string n, .string a, .int .u64 i, .int .u64 acked, .slice ho hl hc, .slice vo vl vc]) wx := by
    intro wx hB
    rw [run_lookD (v := .agg #[.string n, .string a, .int .u64 i, .int .u64 acked, .slice ho hl hc, .slice vo vl vc]) hn ha hi hn ha hi (by rw [hB.block _ l2]; exact hb2)]
    simp
  clear hb1 hb2
  have K1 : ∀ o1 o2, (Instr.lookup 55 (.map (some bm)) (.agg #[.string n, .string a, .int .u64 i]) false).run Try.prog ((w.alloc o1).alloc o2).drew = .ok (.agg #[.string n, .string a, .int .u64 i, .int .u64 acked, .slice ho hl hc, .slice vo vl vc]) ((w.alloc o1).alloc o2).drew :=
    fun o1 o2 => hlook _ (((Below.refl _ _).alloc (Nat.le_refl _) _).alloc (by simp) _).drew
  have K2 : ∀ o1 o2 o3, (Instr.lookup 55 (.map (some bm)) (.agg #[.string n, .string a, .int .u64 i]) false).run Try.prog (((w.alloc o1).alloc o2).alloc o3).drew = .ok (.agg #[.string n, .string a, .int .u64 i, .int .u64 acked, .slice ho hl hc, .slice vo vl vc]) (((w.alloc o1).alloc o2).alloc o3).drew :=
    fun o1 o2 o3 => hlook _ ((((Below.refl _ _).alloc (Nat.le_refl _) _).alloc (by simp) _).alloc (by simp; omega) _).drew
  have C3 : ∀ o1 o2 o3, (((w.alloc o1).alloc o2).alloc o3).cell? ⟨bd, 3, none⟩ = some (.map (some bm)) :=
    fun o1 o2 o3 => (((((Below.refl _ _).alloc (Nat.le_refl _) _).alloc (by simp) _).alloc (by simp; omega) _).cell (p := ⟨bd, 3, none⟩) l1).trans hc3
  have C0 : ∀ o1 o2 o3, (((w.alloc o1).alloc o2).alloc o3).cell? ⟨bd, 0, none⟩ = some (.int .u64 j) :=
    fun o1 o2 o3 => (((((Below.refl _ _).alloc (Nat.le_refl _) _).alloc (by simp) _).alloc (by simp; omega) _).cell (p := ⟨bd, 0, none⟩) l1).trans hc0
  have hbel : ∀ o1 o2 o3, Below w.heap.size w (((w.alloc o1).alloc o2).alloc o3) := fun o1 o2 o3 => (((Below.refl _ _).alloc (Nat.le_refl _) _).alloc (by simp) _).alloc (by simp; omega) _
  clear hlook
  rcases (show (seq ≤ acked) ∨ (¬ seq ≤ acked ∧ inr seq vs = true) ∨ (¬ seq ≤ acked ∧ inr seq vs = false ∧ inr seq hs = true) ∨ (¬ seq ≤ acked ∧ inr seq vs = false ∧ inr seq hs = false) from by by_cases h : seq ≤ acked <;> cases inr seq vs <;> cases inr seq hs <;> simp [h]) with g1 | ⟨g1, g2⟩ | ⟨g1, g2, g3⟩ | ⟨g1, g2, g3⟩
  all_goals
    go_enter Try.func39, Try.ntmps39
    go_wp2
    go_region_held3 (fun w' => w'.cell? ⟨bd, 3, none⟩ = some (.map (some bm)) ∧ w'.cell? ⟨w.heap.size, 0, none⟩ = some (.string n) ∧ w'.cell? ⟨w.heap.size, 1, none⟩ = some (.string a) ∧ w'.cell? ⟨w.heap.size, 2, none⟩ = some (.int .u64 i) ∧ (Instr.lookup 55 (.map (some bm)) (.agg #[.string n, .string a, .int .u64 i]) false).run Try.prog w' = .ok (.agg #[.string n, .string a, .int .u64 i, .int .u64 acked, .slice ho hl hc, .slice vo vl vc]) w') (go_keep) (fail)
    all_goals
      go_wp2_with (first | (go_at_call_of 41 (Value.slice vo vl vc); refine (inruns_any vo vl vc vs seq _ hvl hvm (hv.below (hbel _ _ _).drew)).mono ?_; rintro e w' ⟨rfl, rfl⟩) | (go_at_call_of 41 (Value.slice ho hl hc); refine (inruns_any ho hl hc hs seq _ hhl hhm (hh.below (hbel _ _ _).drew)).mono ?_; rintro e w' ⟨rfl, rfl⟩))
      by_cases hj : j ≤ view
      · have gd : decide (j ≤ view) = true := by simpa using hj
        go_quiet (fail)
        go_wp2
        go_ret
        exact ⟨ret_bool (by simp [*]), by first | exact below_drewN (hbel _ _ _) _ | exact below_drewN (hbel _ _ _).drew _⟩
      · have gd : decide (j ≤ view) = false := by simpa using hj
        go_quiet (fail)
        go_wp2
        go_ret
        exact ⟨ret_bool (by simp [*]), by first | exact below_drewN (hbel _ _ _) _ | exact below_drewN (hbel _ _ _).drew _⟩
end Go.Proofs.Qxb6602992a
