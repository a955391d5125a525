/-
  heldMessages: what a memory that holds one is good for.
-/
import Derived.Test.Qxb6602992aInsertGrow
import Derived.Test.Qxb6602992aSearch
import Derived.Maps.OwnSet
import Derived.Maps.OwnOps
import Derived.ProofKit
namespace Go.Proofs.Qxb6602992a
open Go.RowKit Go.Maps

/-- A message as the laws make them: sender, number, view, after. -/
structure Msg where
  n : ByteArray
  a : ByteArray
  i : Int
  s : Int
  v : Int
  f : Int

def msgC (t : Msg) : Array Value := #[.string t.n, .string t.a, .int .u64 t.i, .int .u64 t.s, .int .u64 t.v, .int .u64 t.f, .slice none 0 0, .slice none 0 0, .int .u64 0, .slice none 0 0]
def msgZ : Msg := ⟨⟨#[]⟩, ⟨#[]⟩, 0, 0, 0, 0⟩

/-- How a message reads as an element of the map. -/
def RL : List Value → Option Msg
  | [.string n, .string a, .int .u64 i, .int .u64 s, .int .u64 v, .int .u64 f, .slice none 0 0, .slice none 0 0, .int .u64 0, .slice none 0 0] => some ⟨n, a, i, s, v, f⟩
  | _ => none
def RM : Value → Option (DataW Msg × List MemPlace)
  | .agg cs => (RL cs.toList).map fun t => (.held t, [])
  | _ => none

theorem RM_mk (t : Msg) : RM (.agg (msgC t)) = some (.held t, []) := rfl
theorem RL_inv {l : List Value} {t : Msg} (h : RL l = some t) : l = (msgC t).toList := by
  unfold RL at h
  split at h
  · cases h; rfl
  · cases h
theorem RM_inv {v : Value} {z : DataW Msg × List MemPlace} (h : RM v = some z) : ∃ t, v = .agg (msgC t) ∧ z = (.held t, []) := by
  unfold RM at h
  split at h
  · rename_i cs
    cases e : RL cs.toList with
    | none => rw [e] at h; cases h
    | some t =>
      rw [e] at h
      cases h
      refine ⟨t, ?_, rfl⟩
      congr 1
      exact Array.ext' (RL_inv e)
  · cases h

theorem key23 : Keyed Try.prog 23 := int_keyed Try.underlying23
theorem zero39 (w : World) : (zeroValue 39).run Try.prog w = .ok (.agg (msgC msgZ)) w := by kernel_rfl

/-- What the map answers, in whatever world it is that map. -/
theorem look_msg {w : World} {bm n : Nat} {D : DataW Msg} (h : w.ownsMap Try.prog 23 RM bm n D) {x : Int} (hx : (Lit.int .u64 x).wf = true) :
    ∃ t, D.atKey (.int .u64 x) (.held msgZ) = .held t ∧ ∀ wx : World, wx.ownsMap Try.prog 23 RM bm n D →
      (Instr.lookup 60 (.map (some bm)) (.int .u64 x) true).run Try.prog wx = .ok (.tuple #[.agg (msgC t), .bool (Maps.has D (.int .u64 x))]) wx := by
  have hk := keyOf_int_mk (P := Try.prog) (k := 23) Try.underlying23 hx
  obtain ⟨v, ps, hrun, hv⟩ := h.look_ok key23 Try.underlying60 (zero39 w) (RM_mk msgZ) hk
  obtain ⟨t, rfl, ht⟩ := RM_inv hv
  simp only [Prod.mk.injEq] at ht
  refine ⟨t, ht.1, fun wx hwx => ?_⟩
  obtain ⟨v', ps', hrun', hv'⟩ := hwx.look_ok key23 Try.underlying60 (zero39 wx) (RM_mk msgZ) hk
  obtain ⟨t', rfl, ht'⟩ := RM_inv hv'
  simp only [Prod.mk.injEq] at ht'
  have : t' = t := by have := ht'.1.symm.trans ht.1; simpa using this
  rw [hrun', this]

/-- The memory of a heldMessages at block bh, the call's own blocks from B on: its slice v, its map at bm. -/
structure HS (w : World) (B bh : Nat) (v : Value) (bm : Nat) (ss : List Int) (n : Nat) (D : DataW Msg) : Prop where
  blk : w.heap[bh]? = some (.cells #[v, .map (some bm)] 62 (0, 0))
  low : B ≤ bh
  row : w.ownsRow B 23 1 v ss.length (ss.map (Value.int .u64))
  mlow : B ≤ bm
  map : w.ownsMap Try.prog 23 RM bm n D

/-- .. or of one to which nothing was put yet. -/
def H0 (w : World) (B bh : Nat) : Prop := B ≤ bh ∧ w.heap[bh]? = some (.cells #[.slice none 0 0, .map none] 62 (0, 0))

/-- What the numbers and the map have to do with each other. -/
structure HP (ss : List Int) (D : DataW Msg) : Prop where
  incr : ss.Pairwise (· < ·)
  wf : Wf ss
  link : ∀ x, x ∈ ss ↔ Maps.has D (.int .u64 x) = true
  size : Maps.size D = ss.length

theorem HS.lt {w : World} {B bh : Nat} {v : Value} {bm : Nat} {ss : List Int} {n : Nat} {D : DataW Msg} (h : HS w B bh v bm ss n D) : bh < w.heap.size := (Array.getElem?_eq_some_iff.1 h.blk).1

/-- It stays what it is while other blocks are made, and others than its own are written. -/
theorem HS.kept {w w' : World} {B bh : Nat} {v : Value} {bm : Nat} {ss : List Int} {n : Nat} {D : DataW Msg} (h : HS w B bh v bm ss n D) (hb : Below w.heap.size w w') : HS w' B bh v bm ss n D := by
  have hg : w.grownBy w' none := ⟨hb.os, hb.tape, hb.output, hb.size, fun k hk _ => hb.block k hk⟩
  refine ⟨by rw [hb.block _ h.lt]; exact h.blk, h.low, ?_, h.mlow, h.map.kept hg (by simp)⟩
  cases hv : v.ownBlock with
  | none => exact h.row.kept hg (.inl hv)
  | some k => exact h.row.kept hg (.inr (by rw [hv]; simp))

theorem HS.c0 {w : World} {B bh : Nat} {v : Value} {bm : Nat} {ss : List Int} {n : Nat} {D : DataW Msg} (h : HS w B bh v bm ss n D) : w.cell? ⟨bh, 0, none⟩ = some v := by rw [cell_of_row _ _ _ _ _ _ h.blk]; rfl
theorem HS.c1 {w : World} {B bh : Nat} {v : Value} {bm : Nat} {ss : List Int} {n : Nat} {D : DataW Msg} (h : HS w B bh v bm ss n D) : w.cell? ⟨bh, 1, none⟩ = some (.map (some bm)) := by rw [cell_of_row _ _ _ _ _ _ h.blk]; rfl

/-- The ten cells of a message's box. -/
def MsgAt (w : World) (bb : Nat) (t : Msg) : Prop :=
  w.cell? ⟨bb, 0, none⟩ = some (.string t.n) ∧ w.cell? ⟨bb, 1, none⟩ = some (.string t.a) ∧ w.cell? ⟨bb, 2, none⟩ = some (.int .u64 t.i) ∧ w.cell? ⟨bb, 3, none⟩ = some (.int .u64 t.s) ∧ w.cell? ⟨bb, 4, none⟩ = some (.int .u64 t.v) ∧
  w.cell? ⟨bb, 5, none⟩ = some (.int .u64 t.f) ∧ w.cell? ⟨bb, 6, none⟩ = some (.slice none 0 0) ∧ w.cell? ⟨bb, 7, none⟩ = some (.slice none 0 0) ∧ w.cell? ⟨bb, 8, none⟩ = some (.int .u64 0) ∧ w.cell? ⟨bb, 9, none⟩ = some (.slice none 0 0)

theorem msg_at {w : World} {bb : Nat} {t : Msg} (h : w.heap[bb]? = some (.cells (msgC t) 39 (0, 0))) : MsgAt w bb t := by
  refine ⟨?_, ?_, ?_, ?_, ?_, ?_, ?_, ?_, ?_, ?_⟩ <;> (rw [cell_of_row _ _ _ _ _ _ h]; rfl)
end Go.Proofs.Qxb6602992a
