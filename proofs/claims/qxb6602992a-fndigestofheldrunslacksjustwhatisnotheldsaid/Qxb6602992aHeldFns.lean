/-
  ZZNewHeld, ZZHeldPut, ZZHeldSeqs, ZZHeldCount, ZZHeldGet, b1ViewAt.
-/
import Derived.Test.Qxb6602992aPut
namespace Go.Proofs.Qxb6602992a
open Go.RowKit Go.Maps

theorem HStart.below {w w' : World} {B bh : Nat} {ss : List Int} {nn : Nat} {D : DataW Msg} (h : HStart w B bh ss nn D) (hb : Below w.heap.size w w') : HStart w' B bh ss nn D := by
  rcases h with ⟨v, bm, h⟩ | ⟨h, h1, h2⟩
  · exact .inl ⟨v, bm, h.kept hb⟩
  · exact .inr ⟨⟨h.1, by rw [hb.block _ (Array.getElem?_eq_some_iff.1 h.2).1]; exact h.2⟩, h1, h2⟩

theorem HP.nil : HP [] (.map []) := ⟨List.Pairwise.nil, fun z hz => by simp at hz, fun x => by simp [Maps.has], rfl⟩

set_option maxHeartbeats 400000 in
theorem newheld (w : World) : Calls Try.prog 28 #[] w fun e w' => e = .returned (.pointer (some ⟨w.heap.size, 0, none⟩)) ∧ H0 w' w.heap.size w.heap.size ∧ Below w.heap.size w w' ∧ w.heap.size < w'.heap.size := by
  go_enter Try.func28, Try.ntmps28
  go_wp2
  go_ret
  exact ⟨rfl, ⟨Nat.le_refl _, heap_alloc_new w _⟩, (Below.refl _ _).alloc (Nat.le_refl _) _, by simp⟩

set_option maxHeartbeats 1000000 in
theorem zzput_any (B bh nn : Nat) (ss : List Int) (D : DataW Msg) (t : Msg) (w : World) (hB : B ≤ w.heap.size) (hS : HStart w B bh ss nn D) (hP : HP ss D) (hx : (Lit.int .u64 t.s).wf = true) (hn : ss.length ≤ 4096) (hnn : nn ≤ 4096) :
    Calls Try.prog 29 #[.pointer (some ⟨bh, 0, none⟩), .agg #[.string t.n, .string t.a, .int .u64 t.i, .int .u64 t.s, .int .u64 t.v, .int .u64 t.f, .slice none 0 0, .slice none 0 0, .int .u64 0, .slice none 0 0]] w fun e w' =>
      e = .returned (.tuple #[]) ∧ ∃ ss', HStart w' B bh ss' (nn + 1) (D.put (.int .u64 t.s) (.held t)) ∧ HP ss' (D.put (.int .u64 t.s) (.held t)) ∧ Below B w w' := by
  have hb1 : ∀ o, Below w.heap.size w (w.alloc o) := fun o => (Below.refl _ _).alloc (Nat.le_refl _) _
  have HPP : Hid (HP ss D) := hP
  have HSS : Hid (HStart w B bh ss nn D) := hS
  clear hP hS
  go_enter Try.func29, Try.ntmps29
  go_wp2_with fail
  refine (put_any B bh nn ss D t _ (by simp; omega) (HSS.out.below (hb1 _)) HPP.out hx hn hnn).mono ?_
  rintro e w' ⟨rfl, v', bm', ss', h1, h2, h3⟩
  go_wp2
  go_end0
  exact ⟨rfl, ss', .inl ⟨v', bm', h1⟩, h2, ((hb1 _).mono hB).trans h3⟩

set_option maxHeartbeats 400000 in
theorem heldseqs (B bh nn : Nat) (ss : List Int) (D : DataW Msg) (w : World) (hS : HStart w B bh ss nn D) :
    Calls Try.prog 31 #[.pointer (some ⟨bh, 0, none⟩)] w fun e w' => ∃ ao cap, e = .returned (.slice ao ss.length cap) ∧ Rd w ao ss ∧ w = w' := by
  obtain ⟨ao, cap, hc, hr⟩ : ∃ ao cap, w.cell? ⟨bh, 0, none⟩ = some (.slice ao ss.length cap) ∧ Rd w ao ss := by
    rcases hS with ⟨v, bm, h⟩ | ⟨h, rfl, _⟩
    · obtain ⟨ao, cap, rfl, hr, _⟩ := Rd.of_owns h.row
      exact ⟨ao, cap, h.c0, hr⟩
    · exact ⟨none, 0, by rw [cell_of_row _ _ _ _ _ _ h.2]; rfl, Rd.nil _ _⟩
  clear hS
  go_enter Try.func31, Try.ntmps31
  go_wp2
  go_ret
  exact ⟨ao, cap, rfl, hr, rfl⟩

set_option maxHeartbeats 400000 in
theorem heldcount (B bh nn : Nat) (ss : List Int) (D : DataW Msg) (w : World) (hS : HStart w B bh ss nn D) (hP : HP ss D) :
    Calls Try.prog 32 #[.pointer (some ⟨bh, 0, none⟩)] w fun e w' => e = .returned (.int .i64 ss.length) ∧ w = w' := by
  obtain ⟨mo, hc, hl⟩ : ∃ mo, w.cell? ⟨bh, 1, none⟩ = some (.map mo) ∧ ∀ ty, (Builtin.len_ #[60] ty #[.map mo]).run Try.prog w = .ok (.int .i64 ss.length) w := by
    rcases hS with ⟨v, bm, h⟩ | ⟨h, rfl, rfl⟩
    · exact ⟨_, h.c1, fun ty => by rw [h.map.len Try.underlying60, hP.size]⟩
    · exact ⟨none, by rw [cell_of_row _ _ _ _ _ _ h.2]; rfl, fun ty => Maps.len_nil Try.underlying60 ty⟩
  clear hS
  go_enter Try.func32, Try.ntmps32
  go_wp2
  go_ret
  exact ⟨rfl, rfl⟩

/-- What the map answers. -/
theorem HStart.look {w : World} {B bh nn : Nat} {ss : List Int} {D : DataW Msg} (hS : HStart w B bh ss nn D) {x : Int} (hx : (Lit.int .u64 x).wf = true) :
    ∃ mo u, w.cell? ⟨bh, 1, none⟩ = some (.map mo) ∧ bh < w.heap.size ∧ D.atKey (.int .u64 x) (.held msgZ) = .held u ∧ ∀ wx : World, Below w.heap.size w wx →
      (Instr.lookup 60 (.map mo) (.int .u64 x) true).run Try.prog wx = .ok (.tuple #[.agg (msgC u), .bool (Maps.has D (.int .u64 x))]) wx := by
  rcases hS with ⟨v, bm, h⟩ | ⟨h, rfl, rfl⟩
  · obtain ⟨u, h1, h2⟩ := look_msg h.map hx
    exact ⟨_, u, h.c1, h.lt, h1, fun wx hb => h2 wx (h.kept hb).map⟩
  · refine ⟨none, msgZ, by rw [cell_of_row _ _ _ _ _ _ h.2]; rfl, (Array.getElem?_eq_some_iff.1 h.2).1, rfl, fun wx _ => ?_⟩
    exact Maps.look_nil true key23 Try.underlying60 (zero39 wx) (keyOf_int_mk Try.underlying23 hx)

set_option maxHeartbeats 1000000 in
theorem heldget (B bh nn : Nat) (ss : List Int) (D : DataW Msg) (x : Int) (w : World) (hS : HStart w B bh ss nn D) (hx : (Lit.int .u64 x).wf = true) :
    Calls Try.prog 33 #[.pointer (some ⟨bh, 0, none⟩), .int .u64 x] w fun e w' => ∃ u, e = .returned (.tuple #[.agg (msgC u), .bool (Maps.has D (.int .u64 x))]) ∧ D.atKey (.int .u64 x) (.held msgZ) = .held u ∧ Below w.heap.size w w' := by
  obtain ⟨mo, u, hc, hlt, hat, hrun⟩ := hS.look hx
  have C1 : ∀ o, (w.alloc o).cell? ⟨bh, 1, none⟩ = some (.map mo) := fun o => by rw [World.cell?_alloc_past _ _ _ hlt]; exact hc
  have K1 : ∀ o, (Instr.lookup 60 (.map mo) (.int .u64 x) true).run Try.prog (w.alloc o) = .ok (.tuple #[.agg (msgC u), .bool (Maps.has D (.int .u64 x))]) (w.alloc o) := fun o => hrun _ ((Below.refl _ _).alloc (Nat.le_refl _) _)
  have HAT : Hid (D.atKey (.int .u64 x) (.held msgZ) = .held u) := hat
  simp only [msgC] at K1
  clear hS hrun hat
  go_enter Try.func33, Try.ntmps33
  go_wp2
  refine bodyPost_ret (v := .tuple #[.agg #[.string u.n, .string u.a, .int .u64 u.i, .int .u64 u.s, .int .u64 u.v, .int .u64 u.f, .slice none 0 0, .slice none 0 0, .int .u64 0, .slice none 0 0], .bool (Maps.has D (.int .u64 x))]) (by simp [results, Try.results33, go_sem]) rfl ⟨u, rfl, HAT.out, ?_⟩
  exact ((Below.refl _ _).alloc (Nat.le_refl _) _).alloc (by simp) _

set_option maxHeartbeats 400000 in
theorem viewat (ao : Option Addr) (len cap : Nat) (zs : List Int) (i : Nat) (w : World) (hlen : zs.length = len) (_hl : len ≤ 1048576) (h : Rd w ao zs) :
    Calls Try.prog 30 #[.slice ao len cap, .int .i64 i] w fun e w' => e = .returned (.int .u64 (zs.getD i 0)) ∧ w = w' := by
  by_cases hi : i < len
  · obtain ⟨b, off, z, rfl, hc, hz⟩ := h.getD (i := i) (by omega)
    rw [← hz.out]
    go_enter Try.func30, Try.ntmps30
    go_wp2
    go_ret
    exact ⟨rfl, rfl⟩
  · have e : zs.getD i 0 = 0 := by rw [List.getD_eq_getElem?_getD, List.getElem?_eq_none (by omega)]; rfl
    rw [e]
    clear e
    go_enter Try.func30, Try.ntmps30
    go_wp2
    go_ret
    exact ⟨rfl, rfl⟩
end Go.Proofs.Qxb6602992a
