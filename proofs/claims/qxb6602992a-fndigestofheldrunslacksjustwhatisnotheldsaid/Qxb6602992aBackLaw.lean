/-
  Plain laws for FnRunsReadBackAsTheNumbersFromOn: no Go in sight.
-/
import Derived.Test.Qxb6602992aBlocksLaw
import Derived.Test.Qxb6602992aRunsIn
namespace Go.Proofs.Qxb6602992a
open Go.RowKit

theorem inr_append (x s t : Int) : ∀ (out : List Int), out.length % 2 = 0 → (inr x (out ++ [s, t]) = true ↔ inr x out = true ∨ (s ≤ x ∧ x ≤ t)) := by
  intro out
  induction out using inr.induct x with
  | case1 a b r h =>
    intro _
    simp only [List.cons_append, inr, if_pos h, true_or]
  | case2 a b r h ih =>
    intro he
    simp only [List.cons_append, inr, if_neg h]
    exact ih (by simp at he; omega)
  | case3 l h =>
    intro he
    match l, h with
    | [], _ => simp [inr]
    | [a], _ => simp at he
    | a :: b :: r, h => exact absurd rfl (h a b r)

theorem even_split : ∀ (out : List Int), out.length % 2 = 0 → out ≠ [] → ∃ o a y, out = o ++ [a, y] ∧ o.length % 2 = 0 := by
  intro out he hn
  have hl : 2 ≤ out.length := by
    cases out with
    | nil => exact absurd rfl hn
    | cons a r => cases r with
      | nil => simp at he
      | cons b s => simp
  refine ⟨out.take (out.length - 2), out[out.length - 2], out[out.length - 1], ?_, by simp; omega⟩
  have h1 : out.drop (out.length - 2) = [out[out.length - 2], out[out.length - 1]] := by
    rw [List.drop_eq_getElem_cons (by omega), List.drop_eq_getElem_cons (by omega), List.drop_of_length_le (by omega)]
    have : out.length - 2 + 1 = out.length - 1 := by omega
    simp [this]
  conv => lhs; rw [← List.take_append_drop (out.length - 2) out, h1]

theorem up_next {y s : Int} (h1 : 0 ≤ y) (h2 : y < s) (h3 : s ≤ 18446744073709551615) : up y = y + 1 := by
  simp only [up, wrapU]; omega

/-- What has been written holds just the numbers that are done. -/
structure RB (frm : Int) (out done : List Int) : Prop where
  holds : ∀ x, inr x out = true ↔ x ∈ done
  below : ∀ d ∈ done, d ≤ lastOf out
  even : out.length % 2 = 0
  room : out.length ≤ 512
  from_ : ∀ d ∈ done, frm ≤ d
  last : out ≠ [] → lastOf out ∈ done
  proper : ∀ o a y, out = o ++ [a, y] → a ≤ y

theorem back_law (frm : Int) : ∀ (rest out done : List Int), RB frm out done → rest.Pairwise (· < ·) → (∀ d ∈ done, ∀ r ∈ rest, d < r) → Wf rest → Wf done →
    ∀ x, inr x (runsF frm out rest) = true ↔ (x ∈ done ∨ (x ∈ rest ∧ frm ≤ x)) ∧ ((runsF frm out rest).length = 512 → x ≤ lastOf (runsF frm out rest)) := by
  intro rest
  induction rest with
  | nil =>
    intro out done h _ _ _ _ x
    show inr x out = true ↔ _
    rw [h.holds]
    exact ⟨fun hx => ⟨.inl hx, fun _ => h.below x hx⟩, fun hx => hx.1.elim id (fun h => by simp at h)⟩
  | cons s r ih =>
    intro out done h hp hd hw hwd x
    have hpr := (List.pairwise_cons.1 hp).2
    have hsr := (List.pairwise_cons.1 hp).1
    have hwr : Wf r := fun z hz => hw z (by simp [hz])
    have hws := hw s (by simp)
    have hds : ∀ d ∈ done, d < s := fun d hd' => hd d hd' s (by simp)
    rw [runsF]
    split
    · rename_i hs
      rw [ih out done h hpr (fun d hd' z hz => hd d hd' z (by simp [hz])) hwr hwd x]
      have : (x ∈ s :: r ∧ frm ≤ x) ↔ (x ∈ r ∧ frm ≤ x) := by
        constructor
        · rintro ⟨hx, hf⟩
          rcases List.mem_cons.1 hx with rfl | hx
          · omega
          · exact ⟨hx, hf⟩
        · rintro ⟨hx, hf⟩; exact ⟨by simp [hx], hf⟩
      rw [this]
    · rename_i hs
      have hmem : ∀ y, (y ∈ s :: done ∨ (y ∈ r ∧ frm ≤ y)) ↔ (y ∈ done ∨ (y ∈ s :: r ∧ frm ≤ y)) := by
        intro y
        constructor
        · rintro (hy | ⟨hy, hf⟩)
          · rcases List.mem_cons.1 hy with rfl | hy
            · exact .inr ⟨by simp, by omega⟩
            · exact .inl hy
          · exact .inr ⟨by simp [hy], hf⟩
        · rintro (hy | ⟨hy, hf⟩)
          · exact .inl (by simp [hy])
          · rcases List.mem_cons.1 hy with rfl | hy
            · exact .inl (by simp)
            · exact .inr ⟨hy, hf⟩
      have hd' : ∀ d ∈ s :: done, ∀ z ∈ r, d < z := by
        intro d hdm z hz
        rcases List.mem_cons.1 hdm with rfl | hdm
        · exact hsr z hz
        · exact hd d hdm z (by simp [hz])
      have hwd' : Wf (s :: done) := by
        intro z hz
        rcases List.mem_cons.1 hz with rfl | hz
        · exact hws
        · exact hwd z hz
      split
      · rename_i hu
        obtain ⟨o, a, y, rfl, ho⟩ := even_split out h.even (fun e => by rw [e] at hu; simp at hu)
        rw [lastOf_two] at hu
        have hyd : y ∈ done := by have := h.last (by simp); rwa [lastOf_two] at this
        have hys := hds y hyd
        have hy0 := hwd y hyd
        have hsy : s = y + 1 := by rw [← hu.2, up_next hy0.1 hys hws.2]
        have hay := h.proper o a y rfl
        have hb := h.below
        rw [lastOf_two] at hb
        rw [set_two, ih (o ++ [a, s]) (s :: done) ?_ hpr hd' hwr hwd' x, hmem]
        refine ⟨fun t => ?_, fun d hdm => ?_, ?_, ?_, fun d hdm => ?_, fun _ => ?_, fun o' a' y' e => ?_⟩
        · rw [inr_append _ _ _ _ ho]
          have ht := h.holds t
          rw [inr_append _ _ _ _ ho] at ht
          rw [List.mem_cons, ← ht]
          constructor
          · rintro (h1 | h1)
            · exact .inr (.inl h1)
            · by_cases e : t = s
              · exact .inl e
              · exact .inr (.inr (by omega))
          · rintro (h1 | h1 | h1)
            · exact .inr (by omega)
            · exact .inl h1
            · exact .inr (by omega)
        · rw [lastOf_two]
          rcases List.mem_cons.1 hdm with rfl | hdm
          · omega
          · have := hb d hdm; omega
        · have := h.even; simp at this ⊢; omega
        · have := h.room; simp at this ⊢; omega
        · rcases List.mem_cons.1 hdm with rfl | hdm
          · omega
          · exact h.from_ d hdm
        · rw [lastOf_two]; simp
        · have := List.append_inj' e rfl
          simp at this
          omega
      · rename_i hnu
        split
        · rename_i h5
          have hne : out ≠ [] := fun e => by rw [e] at h5; simp at h5
          have hl := h.last hne
          rw [h.holds]
          constructor
          · exact fun hx => ⟨.inl hx, fun _ => h.below x hx⟩
          · rintro ⟨hx | ⟨hx, _⟩, hle⟩
            · exact hx
            · exfalso
              have h1 := hle h5
              have h2 := hd (lastOf out) hl x hx
              omega
        · rename_i h5
          rw [ih (out ++ [s, s]) (s :: done) ?_ hpr hd' hwr hwd' x, hmem]
          refine ⟨fun t => ?_, fun d hdm => ?_, ?_, ?_, fun d hdm => ?_, fun _ => ?_, fun o' a' y' e => ?_⟩
          · rw [inr_append _ _ _ _ h.even, h.holds, List.mem_cons]
            constructor
            · rintro (h1 | h1)
              · exact .inr h1
              · exact .inl (by omega)
            · rintro (h1 | h1)
              · exact .inr (by omega)
              · exact .inl h1
          · rw [lastOf_two]
            rcases List.mem_cons.1 hdm with rfl | hdm
            · omega
            · have := hds d hdm; omega
          · have := h.even; simp at this ⊢; omega
          · have := h.even; have := h.room; simp at this ⊢; omega
          · rcases List.mem_cons.1 hdm with rfl | hdm
            · omega
            · exact h.from_ d hdm
          · rw [lastOf_two]; simp
          · have := List.append_inj' e rfl
            simp at this
            omega

/-- What inRuns reads back of what runs wrote. -/
theorem read_back {frm : Int} {zs : List Int} (hinc : incr zs = true) (hw : Wf zs) (x : Int) :
    inr x (runsF frm [] zs) = true ↔ (frm ≤ x ∧ x ∈ zs) ∧ ((runsF frm [] zs).length = 512 → x ≤ lastOf (runsF frm [] zs)) := by
  rw [back_law frm zs [] [] ⟨fun t => by simp [inr], by simp, rfl, by simp, by simp, by simp, fun o a y e => by simp at e⟩ (incr_pairwise zs hinc) (by simp) hw (by intro z hz; simp at hz) x]
  simp [and_comm]
end Go.Proofs.Qxb6602992a
