/-
  The dump's head, read once: what the closed facts 'mayEnter', 'liftsFinal' and 'make' ask of it, so that the kernel need not read the string each time.
-/
import Derived.Test.Qxb6602992aRows
import Derived.ProofKit
namespace Go.Proofs.Qxb6602992a
open Go.RowKit

def headSigns : List Char := ([104, 97, 114, 110, 101, 115, 115, 32, 51, 51, 100, 53, 52, 100, 51, 101, 56, 99, 99, 55, 98, 98, 55, 53, 50, 97, 56, 48, 48, 50, 102, 100, 54, 50, 50, 54, 52, 52, 98, 102, 101, 49, 99, 101, 56, 48, 100, 101, 98, 50, 97, 97, 56, 102, 48, 100, 99, 57, 51, 55, 55, 99, 57, 48, 52, 100, 100, 100, 102, 98, 102, 57, 32, 99, 117, 116, 32, 97, 116, 32, 101, 120, 97, 109, 112, 108, 101, 46, 99, 111, 109, 47, 99, 111, 116, 101, 114, 105, 101, 47, 99, 111, 116, 101, 114, 105, 101, 47, 122, 122, 108, 97, 119, 115, 95, 108, 97, 121, 101, 114, 95, 98, 49, 46, 70, 110, 82, 117, 110, 115, 65, 114, 101, 77, 97, 120, 105, 109, 97, 108, 67, 111, 110, 115, 101, 99, 117, 116, 105, 118, 101, 66, 108, 111, 99, 107, 115, 32, 101, 120, 97, 109, 112, 108, 101, 46, 99, 111, 109, 47, 99, 111, 116, 101, 114, 105, 101, 47, 99, 111, 116, 101, 114, 105, 101, 47, 122, 122, 108, 97, 119, 115, 95, 108, 97, 121, 101, 114, 95, 98, 49, 46, 70, 110, 82, 117, 110, 115, 82, 101, 97, 100, 66, 97, 99, 107, 65, 115, 84, 104, 101, 78, 117, 109, 98, 101, 114, 115, 70, 114, 111, 109, 79, 110, 32, 101, 120, 97, 109, 112, 108, 101, 46, 99, 111, 109, 47, 99, 111, 116, 101, 114, 105, 101, 47, 99, 111, 116, 101, 114, 105, 101, 47, 122, 122, 108, 97, 119, 115, 95, 108, 97, 121, 101, 114, 95, 98, 49, 46, 70, 110, 82, 117, 110, 115, 87, 114, 105, 116, 101, 115, 79, 110, 108, 121, 76, 105, 115, 116, 101, 100, 78, 117, 109, 98, 101, 114, 115, 70, 114, 111, 109, 79, 110, 32, 101, 120, 97, 109, 112, 108, 101, 46, 99, 111, 109, 47, 99, 111, 116, 101, 114, 105, 101, 47, 99, 111, 116, 101, 114, 105, 101, 47, 122, 122, 108, 97, 119, 115, 95, 108, 97, 121, 101, 114, 95, 98, 49, 46, 70, 110, 76, 97, 99, 107, 115, 77, 97, 116, 99, 104, 101, 115, 73, 116, 115, 67, 97, 115, 101, 84, 97, 98, 108, 101, 32, 101, 120, 97, 109, 112, 108, 101, 46, 99, 111, 109, 47, 99, 111, 116, 101, 114, 105, 101, 47, 99, 111, 116, 101, 114, 105, 101, 47, 122, 122, 108, 97, 119, 115, 95, 108, 97, 121, 101, 114, 95, 98, 49, 46, 70, 110, 76, 97, 99, 107, 115, 67, 111, 117, 110, 116, 115, 72, 101, 108, 100, 65, 110, 100, 65, 98, 111, 118, 101, 65, 108, 105, 107, 101, 32, 101, 120, 97, 109, 112, 108, 101, 46, 99, 111, 109, 47, 99, 111, 116, 101, 114, 105, 101, 47, 99, 111, 116, 101, 114, 105, 101, 47, 122, 122, 108, 97, 119, 115, 95, 108, 97, 121, 101, 114, 95, 98, 49, 46, 70, 110, 76, 97, 99, 107, 115, 78, 101, 118, 101, 114, 71, 114, 111, 119, 115, 87, 105, 116, 104, 87, 104, 97, 116, 84, 104, 101, 68, 105, 103, 101, 115, 116, 83, 97, 121, 115, 32, 101, 120, 97, 109, 112, 108, 101, 46, 99, 111, 109, 47, 99, 111, 116, 101, 114, 105, 101, 47, 99, 111, 116, 101, 114, 105, 101, 47, 122, 122, 108, 97, 119, 115, 95, 108, 97, 121, 101, 114, 95, 98, 49, 46, 70, 110, 72, 101, 108, 100, 77, 101, 115, 115, 97, 103, 101, 115, 75, 101, 101, 112, 76, 97, 115, 116, 80, 117, 116, 79, 102, 69, 97, 99, 104, 78, 117, 109, 98, 101, 114, 73, 110, 79, 114, 100, 101, 114, 32, 101, 120, 97, 109, 112, 108, 101, 46, 99, 111, 109, 47, 99, 111, 116, 101, 114, 105, 101, 47, 99, 111, 116, 101, 114, 105, 101, 47, 122, 122, 108, 97, 119, 115, 95, 108, 97, 121, 101, 114, 95, 98, 49, 46, 70, 110, 72, 101, 108, 100, 78, 117, 109, 98, 101, 114, 115, 68, 111, 78, 111, 116, 72, 97, 110, 103, 79, 110, 79, 114, 100, 101, 114, 79, 102, 80, 117, 116, 115, 32, 101, 120, 97, 109, 112, 108, 101, 46, 99, 111, 109, 47, 99, 111, 116, 101, 114, 105, 101, 47, 99, 111, 116, 101, 114, 105, 101, 47, 122, 122, 108, 97, 119, 115, 95, 108, 97, 121, 101, 114, 95, 98, 49, 46, 70, 110, 68, 105, 103, 101, 115, 116, 79, 102, 72, 101, 108, 100, 82, 117, 110, 115, 76, 97, 99, 107, 115, 74, 117, 115, 116, 87, 104, 97, 116, 73, 115, 78, 111, 116, 72, 101, 108, 100] : List Nat).map Char.ofNat
def headWords : List (List Char) := ([[99, 117, 116], [97, 116], [101, 120, 97, 109, 112, 108, 101, 46, 99, 111, 109, 47, 99, 111, 116, 101, 114, 105, 101, 47, 99, 111, 116, 101, 114, 105, 101, 47, 122, 122, 108, 97, 119, 115, 95, 108, 97, 121, 101, 114, 95, 98, 49, 46, 70, 110, 82, 117, 110, 115, 65, 114, 101, 77, 97, 120, 105, 109, 97, 108, 67, 111, 110, 115, 101, 99, 117, 116, 105, 118, 101, 66, 108, 111, 99, 107, 115], [101, 120, 97, 109, 112, 108, 101, 46, 99, 111, 109, 47, 99, 111, 116, 101, 114, 105, 101, 47, 99, 111, 116, 101, 114, 105, 101, 47, 122, 122, 108, 97, 119, 115, 95, 108, 97, 121, 101, 114, 95, 98, 49, 46, 70, 110, 82, 117, 110, 115, 82, 101, 97, 100, 66, 97, 99, 107, 65, 115, 84, 104, 101, 78, 117, 109, 98, 101, 114, 115, 70, 114, 111, 109, 79, 110], [101, 120, 97, 109, 112, 108, 101, 46, 99, 111, 109, 47, 99, 111, 116, 101, 114, 105, 101, 47, 99, 111, 116, 101, 114, 105, 101, 47, 122, 122, 108, 97, 119, 115, 95, 108, 97, 121, 101, 114, 95, 98, 49, 46, 70, 110, 82, 117, 110, 115, 87, 114, 105, 116, 101, 115, 79, 110, 108, 121, 76, 105, 115, 116, 101, 100, 78, 117, 109, 98, 101, 114, 115, 70, 114, 111, 109, 79, 110], [101, 120, 97, 109, 112, 108, 101, 46, 99, 111, 109, 47, 99, 111, 116, 101, 114, 105, 101, 47, 99, 111, 116, 101, 114, 105, 101, 47, 122, 122, 108, 97, 119, 115, 95, 108, 97, 121, 101, 114, 95, 98, 49, 46, 70, 110, 76, 97, 99, 107, 115, 77, 97, 116, 99, 104, 101, 115, 73, 116, 115, 67, 97, 115, 101, 84, 97, 98, 108, 101], [101, 120, 97, 109, 112, 108, 101, 46, 99, 111, 109, 47, 99, 111, 116, 101, 114, 105, 101, 47, 99, 111, 116, 101, 114, 105, 101, 47, 122, 122, 108, 97, 119, 115, 95, 108, 97, 121, 101, 114, 95, 98, 49, 46, 70, 110, 76, 97, 99, 107, 115, 67, 111, 117, 110, 116, 115, 72, 101, 108, 100, 65, 110, 100, 65, 98, 111, 118, 101, 65, 108, 105, 107, 101], [101, 120, 97, 109, 112, 108, 101, 46, 99, 111, 109, 47, 99, 111, 116, 101, 114, 105, 101, 47, 99, 111, 116, 101, 114, 105, 101, 47, 122, 122, 108, 97, 119, 115, 95, 108, 97, 121, 101, 114, 95, 98, 49, 46, 70, 110, 76, 97, 99, 107, 115, 78, 101, 118, 101, 114, 71, 114, 111, 119, 115, 87, 105, 116, 104, 87, 104, 97, 116, 84, 104, 101, 68, 105, 103, 101, 115, 116, 83, 97, 121, 115], [101, 120, 97, 109, 112, 108, 101, 46, 99, 111, 109, 47, 99, 111, 116, 101, 114, 105, 101, 47, 99, 111, 116, 101, 114, 105, 101, 47, 122, 122, 108, 97, 119, 115, 95, 108, 97, 121, 101, 114, 95, 98, 49, 46, 70, 110, 72, 101, 108, 100, 77, 101, 115, 115, 97, 103, 101, 115, 75, 101, 101, 112, 76, 97, 115, 116, 80, 117, 116, 79, 102, 69, 97, 99, 104, 78, 117, 109, 98, 101, 114, 73, 110, 79, 114, 100, 101, 114], [101, 120, 97, 109, 112, 108, 101, 46, 99, 111, 109, 47, 99, 111, 116, 101, 114, 105, 101, 47, 99, 111, 116, 101, 114, 105, 101, 47, 122, 122, 108, 97, 119, 115, 95, 108, 97, 121, 101, 114, 95, 98, 49, 46, 70, 110, 72, 101, 108, 100, 78, 117, 109, 98, 101, 114, 115, 68, 111, 78, 111, 116, 72, 97, 110, 103, 79, 110, 79, 114, 100, 101, 114, 79, 102, 80, 117, 116, 115], [101, 120, 97, 109, 112, 108, 101, 46, 99, 111, 109, 47, 99, 111, 116, 101, 114, 105, 101, 47, 99, 111, 116, 101, 114, 105, 101, 47, 122, 122, 108, 97, 119, 115, 95, 108, 97, 121, 101, 114, 95, 98, 49, 46, 70, 110, 68, 105, 103, 101, 115, 116, 79, 102, 72, 101, 108, 100, 82, 117, 110, 115, 76, 97, 99, 107, 115, 74, 117, 115, 116, 87, 104, 97, 116, 73, 115, 78, 111, 116, 72, 101, 108, 100]] : List (List Nat)).map (fun l => l.map Char.ofNat)
set_option maxRecDepth 100000 in
theorem head_is : Try.prog.initOrder = String.ofList headSigns := by kernel_rfl
set_option maxRecDepth 100000 in
theorem words_are : behindMainWord (wordsSigns Try.prog.initOrder.toList) = headWords := by
  rw [head_is, String.toList_ofList]
  kernel_rfl

def headLiftsW (ws : List (List Char)) : List String :=
  let r := stripLifts liftWords ws
  if r.2.head? == some "cut".toList then r.1 else []
theorem headLifts_of (P : Program) (ws : List (List Char)) (h1 : behindMainWord (wordsSigns P.initOrder.toList) = ws) : P.headLifts = headLiftsW ws := by subst h1; rfl

def makeW (ws : List (List Char)) (hl : List String) : Option Make :=
  match ws with
  | c :: rest => if c == "gc".toList || c == "spec".toList then some .whole else if c == "cut".toList || (c == "finals".toList && rest.head? == some "cut".toList) then some .cut else if c == "carried".toList then some .carried else if hl.isEmpty then none else some (.lifted hl)
  | [] => none
theorem make_of (P : Program) (ws : List (List Char)) (h1 : behindMainWord (wordsSigns P.initOrder.toList) = ws) (h : makeW ws (headLiftsW ws) = some .cut) : P.make = some .cut := by
  rw [← headLifts_of P ws h1] at h
  subst h1; exact h

def liftsFinalW (ws : List (List Char)) (hl : List String) : Bool :=
  (ws.head? == some "carried".toList && ws.take 3 != ["carried".toList, "gc".toList, "cut".toList]) || hl.contains "finals"
theorem liftsFinal_of (P : Program) (ws : List (List Char)) (b : Bool) (h1 : behindMainWord (wordsSigns P.initOrder.toList) = ws) (h : liftsFinalW ws (headLiftsW ws) = b) : P.liftsFinal = b := by
  rw [← headLifts_of P ws h1] at h
  subst h1; exact h

def mayW (ws : List (List Char)) (ll br : Bool) (df : List String → Bool) : Bool :=
  match ws with
  | c :: rest =>
    ((c == "gc".toList || c == "spec".toList) && (rest.isEmpty || rest.head? == some "stop".toList)) ||
    (c == "carried".toList && rest.take 2 == ["gc".toList, "cut".toList] && !ll && !br) ||
    ((stripLifts liftWords (c :: rest)).2.head? == some "cut".toList &&
      ((stripLifts liftWords (c :: rest)).1.contains "finals" || !ll) && ((stripLifts liftWords (c :: rest)).1.contains "reflectrows" || !br) &&
      ((stripLifts liftWords (c :: rest)).1.contains "reflectrows" || !(stripLifts liftWords (c :: rest)).1.contains "leanrows") &&
      df (stripLifts liftWords (c :: rest)).1)
  | [] => false
theorem mayEnter_of (P : Program) (ws : List (List Char)) (h1 : behindMainWord (wordsSigns P.initOrder.toList) = ws) (h2 : P.laysLater = false) (h3 : P.bearsReflect = false) (h4 : P.doorFits [] = true)
    (h : mayW ws false false (fun l => l.isEmpty) = true) : P.mayEnter = true := by
  have e : P.mayEnter = mayW ws P.laysLater P.bearsReflect P.doorFits := by subst h1; rfl
  rw [e, h2, h3]
  cases ws with
  | nil => simp [mayW] at h
  | cons c rest =>
    simp only [mayW, Bool.or_eq_true, Bool.and_eq_true] at h ⊢
    rcases h with h | h
    · exact .inl h
    · refine .inr ⟨h.1, ?_⟩
      have := h.2
      rw [List.isEmpty_iff] at this
      rw [this]; exact h4

theorem may_enter : Try.prog.mayEnter = true := mayEnter_of Try.prog headWords words_are (by kernel_rfl) (by kernel_rfl) (by kernel_rfl) (by kernel_rfl)
theorem lifts_final : Try.prog.liftsFinal = false := liftsFinal_of Try.prog headWords false words_are (by kernel_rfl)
theorem make_is : Try.prog.make = some .cut := make_of Try.prog headWords words_are (by kernel_rfl)

/-- 'joinedFacts' without the three facts on the head. -/
def restFacts (P : Program) (f : FuncId) (fn : Func) (s : ChangeSpec) (c : OpenClaim) : Bool :=
  c.wf (OpenSpec.ofChange s) && laidOutB P && mapsRowed P &&
  fn.params.all (P.readableRec ·) && namedTie P c.named s.vars &&
  (c.stops == []) && (P.stops == []) && (c.knobs == []) && (P.stopKnobs == []) &&
  (c.inPlace == P.inPlace f) && (c.unfollowed == P.unfollowed f) && (c.recurses == P.recurses f) && (c.named == P.varsNamed f) &&
  (c.maps == (fn.params.toList ++ s.plain.varTypes P).any (P.mapsRec ·)) && (c.ifaces == (fn.params.toList ++ s.plain.varTypes P).any (P.ifacesRec ·)) && (c.mapsOut == P.mapsAmong fn.resultTypes.toList) &&
  (c.loops == (fn.params.toList ++ s.plain.varTypes P).any (P.loopsFrom ·)) && (c.wideKeys == (fn.params.toList ++ s.plain.varTypes P ++ fn.resultTypes.toList).any (P.wideKeysFrom ·)) &&
  s.vars.all (P.varReadable ·) && fn.resultTypes.all (fun t => P.readableRec t && decide (t < P.types.size)) && (c.ifacesOut == fn.resultTypes.toList.any (P.ifacesRec ·)) && (c.loopsOut == fn.resultTypes.toList.any (P.loopsFrom ·)) && (c.plainKeys == P.plainKeys) && c.shortTexts.isNone && P.stopsHeard && (c.kinds == (if c.domain.isEmpty then [] else fn.params.toList.map fun t => match P.underlying t with | some (.int k) => some k | _ => none)) && (c.pinned == c.pinnedBy) &&
  (c.veiled == (fn.params.toList ++ s.plain.varTypes P ++ fn.resultTypes.toList).any (P.veiledRec ·)) && c.veiledFits P fn.params.toList (fn.params.toList ++ s.plain.varTypes P ++ fn.resultTypes.toList)

theorem joined_of {P : Program} {f : FuncId} {fn : Func} {s : ChangeSpec} {c : OpenClaim} (h : restFacts P f fn s c = true) (h1 : P.mayEnter = true) (h2 : P.liftsFinal = c.lifted) (h3 : P.make = some c.make) :
    joinedFacts P f fn s c = true := by
  unfold restFacts at h
  unfold joinedFacts
  simp only [Bool.and_eq_true] at h ⊢
  obtain ⟨⟨⟨⟨⟨⟨⟨⟨⟨⟨⟨⟨⟨⟨⟨⟨⟨⟨⟨⟨⟨⟨⟨⟨⟨⟨⟨⟨k1, k2⟩, k3⟩, k4⟩, k5⟩, k6⟩, k7⟩, k8⟩, k9⟩, k10⟩, k11⟩, k12⟩, k13⟩, k14⟩, k15⟩, k16⟩, k17⟩, k17b⟩, k18⟩, k19⟩, k20⟩, k21⟩, k22⟩, k23⟩, k23b⟩, k25⟩, k26⟩, k27⟩, k28⟩ := h
  exact ⟨⟨⟨⟨⟨⟨⟨⟨⟨⟨⟨⟨⟨⟨⟨⟨⟨⟨⟨⟨⟨⟨⟨⟨⟨⟨⟨⟨⟨⟨⟨k1, k2⟩, k3⟩, k4⟩, k5⟩, k6⟩, k7⟩, k8⟩, k9⟩, k10⟩, k11⟩, k12⟩, k13⟩, k14⟩, k15⟩, k16⟩, k17⟩, k17b⟩, k18⟩, k19⟩, k20⟩, k21⟩, k22⟩, k23⟩, k23b⟩, h1⟩, by rw [h2]; exact beq_self_eq_true _⟩, by rw [h3]; exact beq_self_eq_true _⟩, k25⟩, k26⟩, k27⟩, k28⟩
end Go.Proofs.Qxb6602992a
