/-
  The dump's head, read once: what the closed facts 'mayEnter', 'liftsFinal' and 'make' ask of it, so that the kernel need not read the string each time.
-/
import Derived.Test.Qxb6003384aRows
import Derived.ProofKit
namespace Go.Proofs.Qxb6003384a
open Go.RowKit

def headSigns : List Char := ([104, 97, 114, 110, 101, 115, 115, 32, 54, 52, 102, 56, 57, 52, 52, 56, 102, 53, 49, 98, 97, 53, 54, 54, 53, 102, 98, 52, 50, 53, 102, 99, 48, 100, 102, 57, 53, 102, 56, 51, 51, 100, 50, 98, 55, 56, 102, 100, 52, 56, 102, 52, 52, 52, 55, 102, 52, 55, 52, 53, 56, 101, 101, 98, 56, 98, 50, 100, 52, 56, 57, 52, 32, 99, 117, 116, 32, 97, 116, 32, 101, 120, 97, 109, 112, 108, 101, 46, 99, 111, 109, 47, 107, 110, 111, 116, 119, 105, 115, 101, 47, 107, 110, 111, 116, 119, 105, 115, 101, 47, 122, 122, 108, 97, 119, 115, 95, 114, 111, 111, 116, 95, 103, 49, 46, 70, 110, 65, 108, 108, 66, 117, 116, 77, 101, 116, 69, 120, 97, 99, 116, 108, 121, 87, 104, 101, 110, 65, 116, 77, 111, 115, 116, 83, 112, 97, 114, 101, 85, 110, 109, 101, 116] : List Nat).map Char.ofNat
def headWords : List (List Char) := ([[99, 117, 116], [97, 116], [101, 120, 97, 109, 112, 108, 101, 46, 99, 111, 109, 47, 107, 110, 111, 116, 119, 105, 115, 101, 47, 107, 110, 111, 116, 119, 105, 115, 101, 47, 122, 122, 108, 97, 119, 115, 95, 114, 111, 111, 116, 95, 103, 49, 46, 70, 110, 65, 108, 108, 66, 117, 116, 77, 101, 116, 69, 120, 97, 99, 116, 108, 121, 87, 104, 101, 110, 65, 116, 77, 111, 115, 116, 83, 112, 97, 114, 101, 85, 110, 109, 101, 116]] : List (List Nat)).map (fun l => l.map Char.ofNat)
set_option maxRecDepth 100000 in
theorem head_is : Try.prog.initOrder = String.ofList headSigns := by kernel_rfl
set_option maxRecDepth 100000 in
theorem words_are : behindMainWord (wordsSigns Try.prog.initOrder.toList) = headWords := by
  rw [head_is, String.toList_ofList]
  kernel_rfl

def headLiftsW (ws : List (List Char)) : List String :=
  let r := stripLifts liftWords ws
  if r.2.head? == some "cut".toList then r.1 else []
theorem headLifts_of (P : Program) (ws : List (List Char)) (h1 : behindMainWord (wordsSigns P.initOrder.toList) = ws) : P.headLifts = headLiftsW ws := by subst h1; rfl

def makeW (ws : List (List Char)) (hl : List String) : Option Make :=
  match ws with
  | c :: rest => if c == "gc".toList || c == "spec".toList then some .whole else if c == "cut".toList || (c == "finals".toList && rest.head? == some "cut".toList) then some .cut else if c == "carried".toList then some .carried else if hl.isEmpty then none else some (.lifted hl)
  | [] => none
theorem make_of (P : Program) (ws : List (List Char)) (h1 : behindMainWord (wordsSigns P.initOrder.toList) = ws) (h : makeW ws (headLiftsW ws) = some .cut) : P.make = some .cut := by
  rw [← headLifts_of P ws h1] at h
  subst h1; exact h

def liftsFinalW (ws : List (List Char)) (hl : List String) : Bool :=
  (ws.head? == some "carried".toList && ws.take 3 != ["carried".toList, "gc".toList, "cut".toList]) || hl.contains "finals"
theorem liftsFinal_of (P : Program) (ws : List (List Char)) (b : Bool) (h1 : behindMainWord (wordsSigns P.initOrder.toList) = ws) (h : liftsFinalW ws (headLiftsW ws) = b) : P.liftsFinal = b := by
  rw [← headLifts_of P ws h1] at h
  subst h1; exact h

def mayW (ws : List (List Char)) (ll br : Bool) (df : List String → Bool) : Bool :=
  match ws with
  | c :: rest =>
    ((c == "gc".toList || c == "spec".toList) && (rest.isEmpty || rest.head? == some "stop".toList)) ||
    (c == "carried".toList && rest.take 2 == ["gc".toList, "cut".toList] && !ll && !br) ||
    ((stripLifts liftWords (c :: rest)).2.head? == some "cut".toList &&
      ((stripLifts liftWords (c :: rest)).1.contains "finals" || !ll) && ((stripLifts liftWords (c :: rest)).1.contains "reflectrows" || !br) &&
      ((stripLifts liftWords (c :: rest)).1.contains "reflectrows" || !(stripLifts liftWords (c :: rest)).1.contains "leanrows") &&
      df (stripLifts liftWords (c :: rest)).1)
  | [] => false
theorem mayEnter_of (P : Program) (ws : List (List Char)) (h1 : behindMainWord (wordsSigns P.initOrder.toList) = ws) (h2 : P.laysLater = false) (h3 : P.bearsReflect = false) (h4 : P.doorFits [] = true)
    (h : mayW ws false false (fun l => l.isEmpty) = true) : P.mayEnter = true := by
  have e : P.mayEnter = mayW ws P.laysLater P.bearsReflect P.doorFits := by subst h1; rfl
  rw [e, h2, h3]
  cases ws with
  | nil => simp [mayW] at h
  | cons c rest =>
    simp only [mayW, Bool.or_eq_true, Bool.and_eq_true] at h ⊢
    rcases h with h | h
    · exact .inl h
    · refine .inr ⟨h.1, ?_⟩
      have := h.2
      rw [List.isEmpty_iff] at this
      rw [this]; exact h4

theorem may_enter : Try.prog.mayEnter = true := mayEnter_of Try.prog headWords words_are (by kernel_rfl) (by kernel_rfl) (by kernel_rfl) (by kernel_rfl)
theorem lifts_final : Try.prog.liftsFinal = false := liftsFinal_of Try.prog headWords false words_are (by kernel_rfl)
theorem make_is : Try.prog.make = some .cut := make_of Try.prog headWords words_are (by kernel_rfl)

/-- 'joinedFacts' without the three facts on the head. -/
def restFacts (P : Program) (f : FuncId) (fn : Func) (s : ChangeSpec) (c : OpenClaim) : Bool :=
  c.wf (OpenSpec.ofChange s) && laidOutB P && mapsRowed P &&
  fn.params.all (P.readableRec ·) && namedTie P c.named s.vars &&
  (c.stops == []) && (P.stops == []) && (c.knobs == []) && (P.stopKnobs == []) &&
  (c.inPlace == P.inPlace f) && (c.unfollowed == P.unfollowed f) && (c.recurses == P.recurses f) && (c.named == P.varsNamed f) &&
  (c.maps == (fn.params.toList ++ s.plain.varTypes P).any (P.mapsRec ·)) && (c.ifaces == (fn.params.toList ++ s.plain.varTypes P).any (P.ifacesRec ·)) && (c.mapsOut == P.mapsAmong fn.resultTypes.toList) &&
  (c.loops == (fn.params.toList ++ s.plain.varTypes P).any (P.loopsFrom ·)) && (c.wideKeys == (fn.params.toList ++ s.plain.varTypes P ++ fn.resultTypes.toList).any (P.wideKeysFrom ·)) &&
  s.vars.all (P.varReadable ·) && fn.resultTypes.all (fun t => P.readableRec t && decide (t < P.types.size)) && (c.ifacesOut == fn.resultTypes.toList.any (P.ifacesRec ·)) && (c.loopsOut == fn.resultTypes.toList.any (P.loopsFrom ·)) && (c.plainKeys == P.plainKeys) && c.shortTexts.isNone && P.stopsHeard && (c.kinds == (if c.domain.isEmpty then [] else fn.params.toList.map fun t => match P.underlying t with | some (.int k) => some k | _ => none)) && (c.pinned == c.pinnedBy) &&
  (c.veiled == (fn.params.toList ++ s.plain.varTypes P ++ fn.resultTypes.toList).any (P.veiledRec ·)) && c.veiledFits P fn.params.toList (fn.params.toList ++ s.plain.varTypes P ++ fn.resultTypes.toList)

theorem joined_of {P : Program} {f : FuncId} {fn : Func} {s : ChangeSpec} {c : OpenClaim} (h : restFacts P f fn s c = true) (h1 : P.mayEnter = true) (h2 : P.liftsFinal = c.lifted) (h3 : P.make = some c.make) :
    joinedFacts P f fn s c = true := by
  unfold restFacts at h
  unfold joinedFacts
  simp only [Bool.and_eq_true] at h ⊢
  obtain ⟨⟨⟨⟨⟨⟨⟨⟨⟨⟨⟨⟨⟨⟨⟨⟨⟨⟨⟨⟨⟨⟨⟨⟨⟨⟨⟨⟨k1, k2⟩, k3⟩, k4⟩, k5⟩, k6⟩, k7⟩, k8⟩, k9⟩, k10⟩, k11⟩, k12⟩, k13⟩, k14⟩, k15⟩, k16⟩, k17⟩, k17b⟩, k18⟩, k19⟩, k20⟩, k21⟩, k22⟩, k23⟩, k23b⟩, k25⟩, k26⟩, k27⟩, k28⟩ := h
  exact ⟨⟨⟨⟨⟨⟨⟨⟨⟨⟨⟨⟨⟨⟨⟨⟨⟨⟨⟨⟨⟨⟨⟨⟨⟨⟨⟨⟨⟨⟨⟨k1, k2⟩, k3⟩, k4⟩, k5⟩, k6⟩, k7⟩, k8⟩, k9⟩, k10⟩, k11⟩, k12⟩, k13⟩, k14⟩, k15⟩, k16⟩, k17⟩, k17b⟩, k18⟩, k19⟩, k20⟩, k21⟩, k22⟩, k23⟩, k23b⟩, h1⟩, by rw [h2]; exact beq_self_eq_true _⟩, by rw [h3]; exact beq_self_eq_true _⟩, k25⟩, k26⟩, k27⟩, k28⟩
end Go.Proofs.Qxb6003384a
