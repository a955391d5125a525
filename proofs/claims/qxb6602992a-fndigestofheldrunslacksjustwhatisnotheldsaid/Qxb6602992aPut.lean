/-
  (*heldMessages).put.
-/
import Derived.Test.Qxb6602992aHeld
import Derived.Deep.QuietTactic
import Derived.BigQuiet
import Derived.Deep.RegionHeld3
import Derived.Deep.RegionWith
import Derived.Deep.AppendLies
import Derived.Deep.DeepCutAuto
import Derived.OpenShut
import Derived.Deep.RegionLaw
namespace Go.Proofs.Qxb6602992a
open Go.RowKit Go.Maps

/-- A heldMessages before a put. -/
def HStart (w : World) (B bh : Nat) (ss : List Int) (nn : Nat) (D : DataW Msg) : Prop := (∃ v bm, HS w B bh v bm ss nn D) ∨ (H0 w B bh ∧ ss = [] ∧ D = .map [])

/-- The first put makes the map. -/
theorem HS.made {w : World} {B bh : Nat} (h : H0 w B bh) (hB : B ≤ w.heap.size) (o : Obj) (nn : Nat) :
    HS (((w.setCell ⟨bh, 1, none⟩ (.map (some (w.heap.size + 1)))).alloc o).alloc (.map #[] 0)) B bh (.slice none 0 0) (w.heap.size + 1) [] nn (.map []) := by
  have hlt : bh < w.heap.size := (Array.getElem?_eq_some_iff.1 h.2).1
  obtain ⟨W, hW⟩ : ∃ W, W = w.setCell ⟨bh, 1, none⟩ (.map (some (w.heap.size + 1))) := ⟨_, rfl⟩
  have hs : W.heap.size = w.heap.size := by rw [hW]; simp
  have e : W.heap[bh]? = some (.cells #[.slice none 0 0, .map (some (w.heap.size + 1))] 62 (0, 0)) := by
    rw [hW]
    have := heap_setCell_same w bh 1 _ 62 (.map (some (w.heap.size + 1))) h.2
    simpa using this
  rw [← hW]
  refine ⟨?_, h.1, World.ownsRow_nil _ _ _ _, by omega, ?_⟩
  · rw [Below.heap_alloc _ _ _ (by simp; omega), Below.heap_alloc _ _ _ (by omega)]; exact e
  · have := (World.ownsMap_made (H := Msg) (W.alloc o) Try.prog 23 RM).mono (Nat.zero_le nn)
    rw [show (W.alloc o).heap.size = w.heap.size + 1 by simp [hs]] at this
    exact this

/-- A block that is no row of numbers is none that v owns. -/
theorem HS.far {w : World} {B bh : Nat} {v : Value} {bm : Nat} {ss : List Int} {n : Nat} {D : DataW Msg} (h : HS w B bh v bm ss n D) {k : Nat} {cs : Array Value} {T : TypeId} (hk : w.heap[k]? = some (.cells cs T (0, 0))) (hT : T ≠ 23) : some k ≠ v.ownBlock := by
  intro e
  rcases h.row.2 with ⟨hv, _⟩ | ⟨g, cap, cur, hv, _, hh, _⟩
  · rw [hv] at e; simp [Value.ownBlock] at e
  · rw [hv] at e
    simp only [Value.ownBlock, Option.some.injEq] at e
    subst e
    rw [hk] at hh
    simp only [Option.some.injEq, Obj.cells.injEq] at hh
    exact hT hh.2.1
theorem HS.mapFar {w : World} {B bh : Nat} {v : Value} {bm : Nat} {ss : List Int} {n : Nat} {D : DataW Msg} (h : HS w B bh v bm ss n D) : some bm ≠ v.ownBlock := by
  intro e
  obtain ⟨es, clock, hb, _⟩ := h.map
  rcases h.row.2 with ⟨hv, _⟩ | ⟨g, cap, cur, hv, _, hh, _⟩
  · rw [hv] at e; simp [Value.ownBlock] at e
  · rw [hv] at e
    simp only [Value.ownBlock, Option.some.injEq] at e
    subst e
    rw [hb] at hh
    cases hh
theorem HS.mapNe {w : World} {B bh : Nat} {v : Value} {bm : Nat} {ss : List Int} {n : Nat} {D : DataW Msg} (h : HS w B bh v bm ss n D) : bm ≠ bh := by
  intro e
  obtain ⟨es, clock, hb, _⟩ := h.map
  have := h.blk
  rw [e, this] at hb
  cases hb

/-- The slice grown and stored. -/
theorem HS.stored {w w3 : World} {B bh : Nat} {v v' : Value} {bm : Nat} {ss ss' : List Int} {n : Nat} {D : DataW Msg} (h : HS w B bh v bm ss n D) (hg : w.grownBy w3 v.ownBlock) (hown : w3.ownsRow B 23 1 v' ss'.length (ss'.map (Value.int .u64))) :
    HS (w3.setCell ⟨bh, 0, none⟩ v') B bh v' bm ss' n D := by
  have hb3 : w3.heap[bh]? = some (.cells #[v, .map (some bm)] 62 (0, 0)) := (hg.block bh h.lt (h.far h.blk (by decide))).trans h.blk
  refine ⟨?_, h.low, ⟨hown.1, ?_⟩, h.mlow, (h.map.kept hg h.mapFar).setCell h.mapNe _⟩
  · have := heap_setCell_same w3 bh 0 _ 62 v' hb3
    simpa using this
  · rcases hown.2 with hv | ⟨g, cap, cur, hv, h1, hh, r⟩
    · exact .inl hv
    · refine .inr ⟨g, cap, cur, hv, h1, ?_, r⟩
      rw [heap_setCell_other w3 ⟨bh, 0, none⟩ g v' (fun e => ?_)]
      · exact hh
      · have e' : g = bh := e
        rw [e', hb3] at hh
        simp at hh

theorem HS.finish {w W w3 : World} {B bh bb : Nat} {v v' : Value} {bm : Nat} {ss ss' : List Int} {n : Nat} {D : DataW Msg} {t : Msg} (h : HS W B bh v bm ss n D) (hbx : W.heap[bb]? = some (.cells (msgC t) 39 (0, 0))) (hbz : Below B w W) (hBW : B ≤ W.heap.size) (hg : W.grownBy w3 v.ownBlock)
    (hown : w3.ownsRow B 23 1 v' ss'.length (ss'.map (Value.int .u64))) :
    HS (w3.setCell ⟨bh, 0, none⟩ v') B bh v' bm ss' n D ∧ (w3.setCell ⟨bh, 0, none⟩ v').heap[bb]? = some (.cells (msgC t) 39 (0, 0)) ∧ Below B w (w3.setCell ⟨bh, 0, none⟩ v') := by
  refine ⟨h.stored hg hown, ?_, (hbz.grown hg hBW (fun k hk => (h.row.lt k hk).1)).setCell h.low _⟩
  rw [heap_setCell_other w3 ⟨bh, 0, none⟩ bb v' (fun e => ?_), hg.block bb (Array.getElem?_eq_some_iff.1 hbx).1 (h.far hbx (by decide))]
  · exact hbx
  · have e' : bb = bh := e
    have := h.blk
    rw [← e', hbx] at this
    simp at this

theorem key_ne {x y : Int} (h : y ≠ x) : (Lit.int .u64 y) ≠ .int .u64 x := fun e => h (by injection e)

/-- A number that is there is put again. -/
theorem HP.again {ss : List Int} {D : DataW Msg} {x : Int} {d : DataW Msg} (h : HP ss D) (hT : Tidy D) (hh : Maps.has D (.int .u64 x) = true) : HP ss (D.put (.int .u64 x) d) := by
  refine ⟨h.incr, h.wf, fun y => ?_, ?_⟩
  · by_cases e : y = x
    · subst e
      rw [has_put_same (k := .int .u64 y) hT.isMap trivial]
      exact ⟨fun _ => rfl, fun _ => (h.link y).2 hh⟩
    · rw [has_put_other (key_ne e)]; exact h.link y
  · rw [size_put hT, if_pos hh]; exact h.size

/-- A new number is put. -/
theorem HP.add {ss ss' : List Int} {D : DataW Msg} {x : Int} {d : DataW Msg} (h : HP ss D) (hT : Tidy D) (hh : Maps.has D (.int .u64 x) = false) (h1 : ss'.Pairwise (· < ·)) (h2 : Wf ss') (h3 : ∀ y, y ∈ ss' ↔ y = x ∨ y ∈ ss) (h4 : ss'.length = ss.length + 1) : HP ss' (D.put (.int .u64 x) d) := by
  refine ⟨h1, h2, fun y => ?_, ?_⟩
  · rw [h3]
    by_cases e : y = x
    · subst e
      rw [has_put_same (k := .int .u64 y) hT.isMap trivial]
      simp
    · rw [has_put_other (key_ne e), ← h.link y]; simp [e]
  · rw [size_put hT, if_neg (by simp [hh]), h.size, h4]

theorem HP.not_mem {ss : List Int} {D : DataW Msg} {x : Int} (h : HP ss D) (hh : Maps.has D (.int .u64 x) = false) : x ∉ ss := fun hm => by
  have := (h.link x).1 hm; rw [hh] at this; cases this

/-- At the end. -/
theorem HP.push {ss : List Int} {D : DataW Msg} {x : Int} {d : DataW Msg} (h : HP ss D) (hT : Tidy D) (hh : Maps.has D (.int .u64 x) = false) (hx : 0 ≤ x ∧ x ≤ 18446744073709551615) (hl : ∀ y ∈ ss, y < x) : HP (ss ++ [x]) (D.put (.int .u64 x) d) := by
  refine h.add hT hh ?_ ?_ ?_ (by simp)
  · rw [List.pairwise_append]
    exact ⟨h.incr, List.pairwise_singleton _ _, fun a ha b hb => by simp at hb; subst hb; exact hl a ha⟩
  · intro z hz
    rcases List.mem_append.1 hz with hz | hz
    · exact h.wf z hz
    · simp at hz; subst hz; exact hx
  · intro y; simp; exact or_comm

/-- Ahead of the end. -/
theorem HP.insert {ss : List Int} {D : DataW Msg} {x : Int} {d : DataW Msg} {i : Nat} (h : HP ss D) (hT : Tidy D) (hh : Maps.has D (.int .u64 x) = false) (hx : 0 ≤ x ∧ x ≤ 18446744073709551615) (hI : HasInv ss x i i) (hi : i ≤ ss.length) : HP (ss.take i ++ [x] ++ ss.drop i) (D.put (.int .u64 x) d) := by
  have hn := h.not_mem hh
  have hlo : ∀ y ∈ ss.take i, y < x := fun y hy => by
    obtain ⟨j, hj, e⟩ := List.getElem_of_mem hy
    have hj' : j < i := by simp at hj; omega
    have hjl : j < ss.length := by omega
    have := hI.1 j hj'
    rw [List.getD_eq_getElem?_getD, List.getElem?_eq_getElem hjl] at this
    rw [← e]; simpa using this
  have hhi : ∀ y ∈ ss.drop i, x < y := fun y hy => by
    obtain ⟨j, hj, e⟩ := List.getElem_of_mem hy
    have hjl : i + j < ss.length := by simp at hj; omega
    have := hI.2 (i + j) (by omega) hjl
    rw [List.getD_eq_getElem?_getD, List.getElem?_eq_getElem hjl] at this
    have h2 : x ≤ y := by rw [← e]; simpa using this
    have h3 : y ≠ x := fun e2 => hn (e2 ▸ List.mem_of_mem_drop hy)
    omega
  have hmem : ∀ y, y ∈ ss ↔ y ∈ ss.take i ∨ y ∈ ss.drop i := fun y => by
    conv => lhs; rw [← List.take_append_drop i ss]
    exact List.mem_append
  refine h.add hT hh ?_ ?_ ?_ ?_
  · rw [List.append_assoc, List.pairwise_append]
    refine ⟨h.incr.sublist (List.take_sublist _ _), ?_, fun a ha b hb => ?_⟩
    · rw [List.singleton_append, List.pairwise_cons]
      exact ⟨hhi, h.incr.sublist (List.drop_sublist _ _)⟩
    · have := hlo a ha
      rcases List.mem_append.1 hb with hb | hb
      · simp at hb; omega
      · have := hhi b hb; omega
  · intro z hz
    simp only [List.append_assoc, List.mem_append, List.mem_singleton] at hz
    rcases hz with hz | hz | hz
    · exact h.wf z (List.mem_of_mem_take hz)
    · subst hz; exact hx
    · exact h.wf z (List.mem_of_mem_drop hz)
  · intro y
    rw [hmem y]
    simp only [List.append_assoc, List.mem_append, List.mem_singleton]
    constructor
    · rintro (h | h | h)
      · exact .inr (.inl h)
      · exact .inl h
      · exact .inr (.inr h)
    · rintro (h | h | h)
      · exact .inr (.inl h)
      · exact .inl h
      · exact .inr (.inr h)
  · simp; omega

theorem all_below {ss : List Int} {x y : Int} (h : ss.Pairwise (· < ·)) (hy : y = ss.getD (ss.length - 1) 0) (hp : 0 < ss.length) (hyx : y < x) : ∀ z ∈ ss, z < x := by
  intro z hz
  obtain ⟨j, hj, e⟩ := List.getElem_of_mem hz
  have hz' : ss.getD j 0 = z := by rw [List.getD_eq_getElem?_getD, List.getElem?_eq_getElem hj]; exact e
  by_cases hjl : j = ss.length - 1
  · rw [← hjl] at hy; omega
  · have := pairwise_getD h (show j < ss.length - 1 by omega) (by omega); omega

theorem grown_drew {w w' : World} {r : Option Nat} (h : w.drew.grownBy w' r) : w.grownBy w' r := ⟨h.os, h.tape, h.output, h.size, h.block⟩

set_option maxHeartbeats 4000000 in
set_option maxRecDepth 1000000 in
theorem put_any (B bh nn : Nat) (ss : List Int) (D : DataW Msg) (t : Msg) (w : World) (hB : B ≤ w.heap.size) (hS : HStart w B bh ss nn D) (hP : HP ss D) (hx : (Lit.int .u64 t.s).wf = true) (hn : ss.length ≤ 4096) (hnn : nn ≤ 4096) :
    Calls Try.prog 40 #[.pointer (some ⟨bh, 0, none⟩), .agg #[.string t.n, .string t.a, .int .u64 t.i, .int .u64 t.s, .int .u64 t.v, .int .u64 t.f, .slice none 0 0, .slice none 0 0, .int .u64 0, .slice none 0 0]] w fun e w' =>
      e = .returned (.tuple #[]) ∧ ∃ v' bm' ss', HS w' B bh v' bm' ss' (nn + 1) (D.put (.int .u64 t.s) (.held t)) ∧ HP ss' (D.put (.int .u64 t.s) (.held t)) ∧ Below B w w' := by
  have hnm := fun wx r => run_eql_map_nil (P := Try.prog) wx 60 23 39 r Try.underlying60
  have hmm := @run_makeMap Try.prog
  have HPP : Hid (HP ss D) := hP
  have hxb : 0 ≤ t.s ∧ t.s ≤ 18446744073709551615 := bounds_u64 hx
  obtain ⟨i0, hi, hz0, hz1, hz2⟩ := info_parts Try.info23
  clear hP
  obtain ⟨mo, hc1, hlt, HSS⟩ : ∃ mo, w.cell? ⟨bh, 1, none⟩ = some (.map mo) ∧ bh < w.heap.size ∧ Hid ((∃ b, mo = some b ∧ ∃ v bm, HS w B bh v bm ss nn D) ∨ (mo = none ∧ H0 w B bh ∧ ss = [] ∧ D = .map [])) := by
    rcases hS with ⟨v, bm, h⟩ | ⟨h, h1, h2⟩
    · exact ⟨_, h.c1, h.lt, .inl ⟨_, rfl, v, bm, h⟩⟩
    · exact ⟨none, by rw [cell_of_row _ _ _ _ _ _ h.2]; rfl, (Array.getElem?_eq_some_iff.1 h.2).1, .inr ⟨rfl, h, h1, h2⟩⟩
  have hbox : ∀ o, (w.alloc o).cell? ⟨bh, 1, none⟩ = some (.map mo) := fun o => by rw [World.cell?_alloc_past _ _ _ hlt]; exact hc1
  clear hS
  go_enter Try.func40, Try.ntmps40
  go_upto_if 13 with fail
  go_cut [13] (fun _ wz => ∃ v bm, Hid (HS wz B bh v bm ss nn D) ∧ Hid (wz.heap[w.heap.size]? = some (.cells (msgC t) 39 (0, 0))) ∧ Hid (Below B w wz))
  case first =>
    rcases HSS.out with ⟨b, rfl, v, bm, h⟩ | ⟨rfl, h, rfl, rfl⟩
    · have hb1 := (Below.refl w.heap.size w).alloc (Nat.le_refl _) (.cells (msgC t) 39)
      have h2 := h.kept hb1
      clear h
      go_wp2
      go_meet
      case rel => exact ⟨v, bm, h2, heap_alloc_new w _, hb1.mono hB⟩
    · have hfz : w.frozen? ⟨bh, 1, none⟩ = false := frozen_of_row w bh 1 _ _ h.2
      have h2 := HS.made h hB (.cells (msgC t) 39) nn
      have hlt' : B ≤ bh := h.1
      go_wp2
      go_meet
      case rel =>
        refine ⟨_, _, h2, ?_, (((Below.refl _ _).setCell hlt' _).alloc (by simpa using hB) _).alloc (by simp; omega) _⟩
        show _ = _
        rw [Below.heap_alloc _ _ _ (by simp)]
        have h3 := heap_alloc_new (w.setCell ⟨bh, 1, none⟩ (.map (some (w.heap.size + 1)))) (.cells (msgC t) 39)
        rw [show (w.setCell ⟨bh, 1, none⟩ (.map (some (w.heap.size + 1)))).heap.size = w.heap.size by simp] at h3
        exact h3
  case rest =>
    clear HSS hc1 hbox
    obtain ⟨v, bm, hS, hbx, hbz⟩ := hcut
    obtain ⟨w1, rfl⟩ : ∃ w1, w1 = wc := ⟨_, rfl⟩
    obtain ⟨m0, m1, m2, m3, m4, m5, m6, m7, m8, m9⟩ := msg_at hbx.out
    have c1 := hS.out.c1
    have hlt1 := hS.out.lt
    obtain ⟨u, hat, hrun⟩ := look_msg hS.out.map hx
    go_upto_region 3 with fail
    go_cut [5] (fun ok wz => ok = .bool (Maps.has D (.int .u64 t.s)) ∧ Hid (HS wz B bh v bm ss nn D) ∧ Hid (wz.heap[w.heap.size]? = some (.cells (msgC t) 39 (0, 0))) ∧ Hid (Below B w wz))
    case first =>
      have hbw : w.heap.size < w1.heap.size := (Array.getElem?_eq_some_iff.1 hbx.out).1
      have K1 : ∀ o, (Instr.lookup 60 (.map (some bm)) (.int .u64 t.s) true).run Try.prog (w1.alloc o).drew = .ok (.tuple #[.agg (msgC u), .bool (Maps.has D (.int .u64 t.s))]) (w1.alloc o).drew := fun o => hrun _ ((hS.out.map.alloc o).drew)
      have K0 : (Instr.lookup 60 (.map (some bm)) (.int .u64 t.s) true).run Try.prog w1.drew = .ok (.tuple #[.agg (msgC u), .bool (Maps.has D (.int .u64 t.s))]) w1.drew := hrun _ hS.out.map.drew
      have C1 : ∀ o, (w1.alloc o).cell? ⟨bh, 1, none⟩ = some (.map (some bm)) := fun o => by rw [World.cell?_alloc_past _ _ _ hlt1]; exact c1
      have C3 : ∀ o, (w1.alloc o).cell? ⟨w.heap.size, 3, none⟩ = some (.int .u64 t.s) := fun o => by rw [World.cell?_alloc_past _ _ _ hbw]; exact m3
      have hfin : ∀ o, Below w1.heap.size w1 (w1.alloc o).drew := fun o => ((Below.refl _ _).alloc (Nat.le_refl _) _).drew
      simp only [msgC] at K0 K1
      clear hrun m0 m1 m2 m4 m5 m6 m7 m8 m9
      go_region_held3 (fun w' => w'.cell? ⟨bh, 1, none⟩ = some (.map (some bm)) ∧ w'.cell? ⟨w.heap.size, 3, none⟩ = some (.int .u64 t.s) ∧ (Instr.lookup 60 (.map (some bm)) (.int .u64 t.s) true).run Try.prog w' = .ok (.tuple #[.agg #[.string u.n, .string u.a, .int .u64 u.i, .int .u64 u.s, .int .u64 u.v, .int .u64 u.f, .slice none 0 0, .slice none 0 0, .int .u64 0, .slice none 0 0], .bool (Maps.has D (.int .u64 t.s))]) w') (go_keep) (fail)
      all_goals
        go_wp2
        go_meet
        case rel => exact ⟨rfl, hS.out.kept (hfin _), by rw [Hid, (hfin _).block _ hbw]; exact hbx.out, hbz.out.trans ((hfin _).mono (Nat.le_trans hB hbz.out.size))⟩
    case rest =>
      clear m0 m1 m2 m3 m4 m5 m6 m7 m8 m9 c1 hlt1 hat hrun
      clear hS hbx hbz
      obtain ⟨rfl, hS, hbx, hbz⟩ := hcut
      obtain ⟨w2, rfl⟩ : ∃ w2, w2 = wc := ⟨_, rfl⟩
      go_upto_if 29 with fail
      go_cut [5, 28] (fun _ _ wz => ∃ v' ss', Hid (HS wz B bh v' bm ss' nn D) ∧ Hid (HP ss' (D.put (.int .u64 t.s) (.held t))) ∧ Hid (wz.heap[w.heap.size]? = some (.cells (msgC t) 39 (0, 0))) ∧ Hid (Below B w wz))
      case first =>
        cases hh : Maps.has D (.int .u64 t.s)
        · obtain ⟨ao, cap, rfl, hrd, hne⟩ := Rd.of_owns hS.out.row
          obtain ⟨m0, m1, m2, m3, m4, m5, m6, m7, m8, m9⟩ := msg_at hbx.out
          have c0 := hS.out.c0
          clear m0 m1 m2 m4 m5 m6 m7 m8 m9 hne
          by_cases hss : ss.length = 0
          · have g0 : ((ss.length : Int) == 0) = true := by simp [hss]
            have hl : Hid (∀ y ∈ ss, y < t.s) := by rw [List.eq_nil_of_length_eq_zero hss]; intro y hy; simp at hy
            have hss' : Hid (ss.length = 0) := hss
            clear hss
            go_wp2
            go_quiet (fail)
            go_wp2
            have hS3 := hS.out.kept (below_drewN (Below.refl _ _) nq)
            have hbx3 : (w2.drewN nq).heap[w.heap.size]? = some (.cells (msgC t) 39 (0, 0)) := hbx.out
            have hbz3 : Below B w (w2.drewN nq) := below_drewN hbz.out nq
            clear hS hbx hbz hrd m3 c0
            generalize w2.drewN nq = W at hS3 hbx3 hbz3 ⊢
            obtain ⟨m0, m1, m2, m3, m4, m5, m6, m7, m8, m9⟩ := msg_at hbx3
            clear m0 m1 m2 m4 m5 m6 m7 m8 m9
            have c0 := hS3.c0
            have f0 : W.frozen? ⟨bh, 0, none⟩ = false := frozen_of_row W bh 0 _ _ hS3.blk
            have hltb := hS3.lt
            have F0 : ∀ o, (W.alloc o).frozen? ⟨bh, 0, none⟩ = false := fun o => ((Below.refl W.heap.size W).alloc (Nat.le_refl _) o).frozen (p := ⟨bh, 0, none⟩) hltb |>.trans f0
            have C0 : ∀ o, (W.alloc o).cell? ⟨bh, 0, none⟩ = some (.slice ao ss.length cap) := fun o => by rw [World.cell?_alloc_past _ _ _ hltb]; exact c0
            have hltx : w.heap.size < W.heap.size := (Array.getElem?_eq_some_iff.1 hbx3).1
            have C3 : ∀ o, (W.alloc o).cell? ⟨w.heap.size, 3, none⟩ = some (.int .u64 t.s) := fun o => by rw [World.cell?_alloc_past _ _ _ hltx]; exact m3
            have far1 := hS3.far hS3.blk (by decide)
            have far2 := hS3.far hbx3 (by decide)
            have hBW : B ≤ W.heap.size := Nat.le_trans hB hbz3.size
            go_region_law ((refine step_append_lies _ (by rfl) _ _ _ (by rfl) B 23 i0 (.int .u64 0) 1 8 Try.underlying22 hi hz0 hz1 hz2 rfl (by omega) (.slice ao ss.length cap) ss.length (ss.map (Value.int .u64)) (by rfl) ((hS3.row.alloc _).drew) ⟨W.heap.size, 0, none⟩ 1 1 [.int .u64 t.s] (by rfl) (by rfl) (World.news_of_block (heap_alloc_new W _)) (ints_oneCell _ [t.s]) (by omega) (by unfold maxLen; omega) (by omega) (by simp; omega) (W.heap.size + 1) (by simp) ?_; intro g capg w3 hown3 hgrow hat3 hlt3; have k0 : w3.cell? ⟨bh, 0, none⟩ = some (.slice ao ss.length cap) := (hgrow.cell_far ⟨bh, 0, none⟩ (by simp; omega) far1).trans (C0 _); have k3 : w3.cell? ⟨w.heap.size, 3, none⟩ = some (.int .u64 t.s) := (hgrow.cell_far ⟨w.heap.size, 3, none⟩ (by simp; omega) far2).trans (C3 _); have kf : w3.frozen? ⟨bh, 0, none⟩ = false := (hgrow.frozen_far ⟨bh, 0, none⟩ (by simp; omega) far1).trans (F0 _)))
            all_goals
              have hg : W.grownBy w3 (Value.slice ao ss.length cap).ownBlock := (World.grownBy_alloc W _ _).trans (grown_drew hgrow)
              obtain ⟨q1, q2, q3⟩ := hS3.finish (ss' := ss ++ [t.s]) hbx3 hbz3 hBW hg (by simpa using hown3)
              have q4 := HPP.out.push (d := .held t) (hS3.map.tidy key23) hh hxb hl.out
              clear hown3 hgrow k0 k3 kf hS3 hbx3 hbz3
              go_wp2
              go_meet
              case rel => exact ⟨_, _, q1, q4, q2, q3⟩
          · have g0 : ((ss.length : Int) == 0) = false := beq_eq_false_iff_ne.2 (by omega)
            have g1 : decide ((ss.length : Int) = 0) = false := decide_eq_false (by omega)
            obtain ⟨y, hcy, hy⟩ : ∃ y, (∃ b off, ao = some ⟨b, off, none⟩ ∧ w2.cell? ⟨b, off + (ss.length - 1), none⟩ = some (.int .u64 y)) ∧ Hid (y = ss.getD (ss.length - 1) 0) := by
              obtain ⟨b, off, z, e1, e2, e3⟩ := hrd.getD (i := ss.length - 1) (by omega)
              exact ⟨z, ⟨b, off, e1, e2⟩, e3⟩
            obtain ⟨gb, goff, rfl, hcy⟩ := hcy
            have g2 : (0 : Int) ≤ (ss.length : Int) - 1 := by omega
            have g3 : (ss.length : Int) - 1 < (ss.length : Int) := by omega
            have hpos : 0 < ss.length := by omega
            by_cases hys : y < t.s
            · have hl : Hid (∀ y ∈ ss, y < t.s) := all_below HPP.out.incr hy.out hpos hys
              go_wp2
              go_quiet (fail)
              go_wp2
              have hS3 := hS.out.kept (below_drewN (Below.refl _ _) nq)
              have hbx3 : (w2.drewN nq).heap[w.heap.size]? = some (.cells (msgC t) 39 (0, 0)) := hbx.out
              have hbz3 : Below B w (w2.drewN nq) := below_drewN hbz.out nq
              clear hS hbx hbz hrd m3 c0 hcy
              generalize w2.drewN nq = W at hS3 hbx3 hbz3 ⊢
              obtain ⟨m0, m1, m2, m3, m4, m5, m6, m7, m8, m9⟩ := msg_at hbx3
              clear m0 m1 m2 m4 m5 m6 m7 m8 m9
              have c0 := hS3.c0
              have f0 : W.frozen? ⟨bh, 0, none⟩ = false := frozen_of_row W bh 0 _ _ hS3.blk
              have hltb := hS3.lt
              have F0 : ∀ o, (W.alloc o).frozen? ⟨bh, 0, none⟩ = false := fun o => ((Below.refl W.heap.size W).alloc (Nat.le_refl _) o).frozen (p := ⟨bh, 0, none⟩) hltb |>.trans f0
              have C0 : ∀ o, (W.alloc o).cell? ⟨bh, 0, none⟩ = some (.slice (some ⟨gb, goff, none⟩) ss.length cap) := fun o => by rw [World.cell?_alloc_past _ _ _ hltb]; exact c0
              have hltx : w.heap.size < W.heap.size := (Array.getElem?_eq_some_iff.1 hbx3).1
              have C3 : ∀ o, (W.alloc o).cell? ⟨w.heap.size, 3, none⟩ = some (.int .u64 t.s) := fun o => by rw [World.cell?_alloc_past _ _ _ hltx]; exact m3
              have far1 := hS3.far hS3.blk (by decide)
              have far2 := hS3.far hbx3 (by decide)
              have hBW : B ≤ W.heap.size := Nat.le_trans hB hbz3.size
              go_region_law ((refine step_append_lies _ (by rfl) _ _ _ (by rfl) B 23 i0 (.int .u64 0) 1 8 Try.underlying22 hi hz0 hz1 hz2 rfl (by omega) (.slice (some ⟨gb, goff, none⟩) ss.length cap) ss.length (ss.map (Value.int .u64)) (by rfl) ((hS3.row.alloc _).drew) ⟨W.heap.size, 0, none⟩ 1 1 [.int .u64 t.s] (by rfl) (by rfl) (World.news_of_block (heap_alloc_new W _)) (ints_oneCell _ [t.s]) (by omega) (by unfold maxLen; omega) (by omega) (by simp; omega) (W.heap.size + 1) (by simp) ?_; intro g capg w3 hown3 hgrow hat3 hlt3; have k0 : w3.cell? ⟨bh, 0, none⟩ = some (.slice (some ⟨gb, goff, none⟩) ss.length cap) := (hgrow.cell_far ⟨bh, 0, none⟩ (by simp; omega) far1).trans (C0 _); have k3 : w3.cell? ⟨w.heap.size, 3, none⟩ = some (.int .u64 t.s) := (hgrow.cell_far ⟨w.heap.size, 3, none⟩ (by simp; omega) far2).trans (C3 _); have kf : w3.frozen? ⟨bh, 0, none⟩ = false := (hgrow.frozen_far ⟨bh, 0, none⟩ (by simp; omega) far1).trans (F0 _)))
              all_goals
                have hg : W.grownBy w3 (Value.slice (some ⟨gb, goff, none⟩) ss.length cap).ownBlock := (World.grownBy_alloc W _ _).trans (grown_drew hgrow)
                obtain ⟨q1, q2, q3⟩ := hS3.finish (ss' := ss ++ [t.s]) hbx3 hbz3 hBW hg (by simpa using hown3)
                have q4 := HPP.out.push (d := .held t) (hS3.map.tidy key23) hh hxb hl.out
                clear hown3 hgrow k0 k3 kf hS3 hbx3 hbz3
                go_wp2
                go_meet
                case rel => exact ⟨_, _, q1, q4, q2, q3⟩
            · obtain rfl : goff = 0 := by
                obtain ⟨g', c', e, _⟩ := hS.out.row.form hpos
                simp at e
                exact e.1.2
              simp only [Nat.zero_add] at hcy
              have hnb : Hid (¬ ∀ z ∈ ss, z < t.s) := fun hall => hys (by
                have := hall y (by rw [hy.out, List.getD_eq_getElem?_getD, List.getElem?_eq_getElem (by omega)]; exact List.getElem_mem _)
                exact this)
              go_wp2
              go_quiet (fail)
              go_wp2
              have hS3 := hS.out.kept (below_drewN (Below.refl _ _) nq)
              have hbx3 : (w2.drewN nq).heap[w.heap.size]? = some (.cells (msgC t) 39 (0, 0)) := hbx.out
              have hbz3 : Below B w (w2.drewN nq) := below_drewN hbz.out nq
              have hrd3 := hrd.drewN nq
              clear hS hbx hbz hrd m3 c0 hcy
              generalize w2.drewN nq = W at hS3 hbx3 hbz3 hrd3 ⊢
              obtain ⟨m0, m1, m2, m3, m4, m5, m6, m7, m8, m9⟩ := msg_at hbx3
              clear m0 m1 m2 m4 m5 m6 m7 m8 m9
              have c0 := hS3.c0
              have f0 : W.frozen? ⟨bh, 0, none⟩ = false := frozen_of_row W bh 0 _ _ hS3.blk
              go_region_held3 (fun w' => w'.cell? ⟨bh, 0, none⟩ = some (.slice (some ⟨gb, 0, none⟩) ss.length cap) ∧ w'.cell? ⟨w.heap.size, 3, none⟩ = some (.int .u64 t.s)) (go_keep) ((go_at_call 42; refine (bsearch_any (some ⟨gb, 0, none⟩) ss.length cap ss t.s _ rfl (by omega) (hrd3.below (Below.refl _ _).drew) HPP.out.incr).mono ?_; rintro e w' ⟨i, hi1, hI, rfl, f, rfl⟩))
              go_wp2
              have hil : i < ss.length := by
                rcases Nat.lt_or_ge i ss.length with h | h
                · exact h
                · exact absurd (fun z hz => by
                    obtain ⟨j, hj, e⟩ := List.getElem_of_mem hz
                    have := hI.1 j (by omega)
                    rw [List.getD_eq_getElem?_getD, List.getElem?_eq_getElem hj] at this
                    rw [← e]; simpa using this) hnb.out
              have q4 := HPP.out.insert (d := .held t) (hS3.map.tidy key23) hh hxb hI hi1
              have HQ : Hid (HP (ss.take i ++ [t.s] ++ ss.drop i) (D.put (.int .u64 t.s) (.held t))) := q4
              have hS4 := hS3.kept (Below.refl _ W).drew
              have hbx4 : W.drew.heap[w.heap.size]? = some (.cells (msgC t) 39 (0, 0)) := hbx3
              have hbz4 := hbz3.drew
              clear q4 hI hrd3 c0 m3 f0 hS3 hbx3 hbz3
              generalize W.drew = X at hS4 hbx4 hbz4 ⊢
              obtain ⟨m0, m1, m2, m3, m4, m5, m6, m7, m8, m9⟩ := msg_at hbx4
              clear m0 m1 m2 m4 m5 m6 m7 m8 m9
              have c0 := hS4.c0
              have hltb := hS4.lt
              have hltx : w.heap.size < X.heap.size := (Array.getElem?_eq_some_iff.1 hbx4).1
              have far1 := hS4.far hS4.blk (by decide)
              have hBX : B ≤ X.heap.size := Nat.le_trans hB hbz4.size
              have hgX : gb < X.heap.size := (hS4.row.lt gb rfl).2
              have f0 : X.frozen? ⟨bh, 0, none⟩ = false := frozen_of_row X bh 0 _ _ hS4.blk
              have F0 : ∀ o, (X.alloc o).frozen? ⟨bh, 0, none⟩ = false := fun o => ((Below.refl X.heap.size X).alloc (Nat.le_refl _) o).frozen (p := ⟨bh, 0, none⟩) hltb |>.trans f0
              have C0 : ∀ o, (X.alloc o).cell? ⟨bh, 0, none⟩ = some (.slice (some ⟨gb, 0, none⟩) ss.length cap) := fun o => by rw [World.cell?_alloc_past _ _ _ hltb]; exact c0
              have C3 : ∀ o, (X.alloc o).cell? ⟨w.heap.size, 3, none⟩ = some (.int .u64 t.s) := fun o => by rw [World.cell?_alloc_past _ _ _ hltx]; exact m3
              go_region_with (go_at_call 43; refine (insert_own B gb ss.length cap i X.heap.size (ss.map (Value.int .u64)) t.s _ ((hS4.row.alloc _).drew) (by simp; omega) (heap_alloc_new X _) (by omega) hil (by omega) (ints_oneCell _ _)).mono ?_; rintro e w3 ⟨g', c', rfl, hown3, hgrow⟩; have k0 : w3.cell? ⟨bh, 0, none⟩ = some (.slice (some ⟨gb, 0, none⟩) ss.length cap) := (hgrow.cell_far ⟨bh, 0, none⟩ (by simp; omega) far1).trans (C0 _); have kf : w3.frozen? ⟨bh, 0, none⟩ = false := (hgrow.frozen_far ⟨bh, 0, none⟩ (by simp; omega) far1).trans (F0 _))
              all_goals
                have hg : X.grownBy w3 (Value.slice (some ⟨gb, 0, none⟩) ss.length cap).ownBlock := (World.grownBy_alloc X _ _).trans (grown_drew hgrow)
                obtain ⟨q1, q2, q3⟩ := hS4.finish (ss' := ss.take i ++ [t.s] ++ ss.drop i) hbx4 hbz4 hBX hg (by
                  have e1 : (ss.take i ++ [t.s] ++ ss.drop i).length = ss.length + 1 := by simp; omega
                  rw [e1]; simpa [List.map_take, List.map_drop] using hown3)
                clear hown3 hgrow k0 kf hS4 hbx4 hbz4
                go_wp2
                go_meet
                case rel => exact ⟨_, _, q1, HQ, q2, q3⟩
        · have hHP := HPP.out.again (d := .held t) (hS.out.map.tidy key23) hh
          go_wp2
          go_meet
          case rel => exact ⟨_, _, hS, hHP, hbx, hbz⟩
      case rest =>
        clear hS hbx hbz
        obtain ⟨v', ss', hS, hQ, hbx, hbz⟩ := hcut
        obtain ⟨w5, rfl⟩ : ∃ w5, w5 = wc := ⟨_, rfl⟩
        obtain ⟨m0, m1, m2, m3, m4, m5, m6, m7, m8, m9⟩ := msg_at hbx.out
        have c1 := hS.out.c1
        have hlt5 := hS.out.lt
        obtain ⟨w6, hrun, hown6, hg6⟩ := (hS.out.map.drew).update key23 Try.underlying60 (by unfold maxLen; omega) (keyOf_int_mk Try.underlying23 hx) (RM_mk t)
        simp only [msgC] at hrun
        have hfin : HS w6 B bh v' bm ss' (nn + 1) (D.put (.int .u64 t.s) (.held t)) := by
          have hg := grown_drew hg6
          refine ⟨(hg.block bh hlt5 (fun e => hS.out.mapNe (Option.some.inj e).symm)).trans hS.out.blk, hS.out.low, hS.out.row.kept hg ?_, hS.out.mlow, hown6⟩
          exact .inr (fun e => hS.out.mapFar e.symm)
        have hbel : Below B w w6 := hbz.out.grown (grown_drew hg6) (Nat.le_trans hB hbz.out.size) (fun k hk => by cases hk; exact hS.out.mlow)
        have HF : Hid (HS w6 B bh v' bm ss' (nn + 1) (D.put (.int .u64 t.s) (.held t))) := hfin
        have HB : Hid (Below B w w6) := hbel
        clear hfin hbel hown6 hg6 hS hbx hbz
        go_wp2
        go_region
        all_goals
          go_wp2
          go_end0
          exact ⟨rfl, _, _, _, HF.out, hQ.out, HB.out⟩
end Go.Proofs.Qxb6602992a
