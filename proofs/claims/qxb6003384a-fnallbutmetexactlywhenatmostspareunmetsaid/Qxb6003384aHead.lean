/-
  The head of the program's dump, read once: what three closed facts ('mayEnter', 'liftsFinal', 'make') ask of it, so that the kernel need not read the string for each of them. The laws are said of any program and used at this one.
-/
import Derived.Test.Qxb6003384aRows
import Derived.ProofKit
namespace Go.Proofs.Qxb6003384a
open Go.RowKit

/-- The head's signs, by their numbers. -/
def headSigns : List Char := ([104, 97, 114, 110, 101, 115, 115, 32, 54, 52, 102, 56, 57, 52, 52, 56, 102, 53, 49, 98, 97, 53, 54, 54, 53, 102, 98, 52, 50, 53, 102, 99, 48, 100, 102, 57, 53, 102, 56, 51, 51, 100, 50, 98, 55, 56, 102, 100, 52, 56, 102, 52, 52, 52, 55, 102, 52, 55, 52, 53, 56, 101, 101, 98, 56, 98, 50, 100, 52, 56, 57, 52, 32, 99, 117, 116, 32, 97, 116, 32, 101, 120, 97, 109, 112, 108, 101, 46, 99, 111, 109, 47, 107, 110, 111, 116, 119, 105, 115, 101, 47, 107, 110, 111, 116, 119, 105, 115, 101, 47, 122, 122, 108, 97, 119, 115, 95, 114, 111, 111, 116, 95, 103, 49, 46, 70, 110, 65, 108, 108, 66, 117, 116, 77, 101, 116, 69, 120, 97, 99, 116, 108, 121, 87, 104, 101, 110, 65, 116, 77, 111, 115, 116, 83, 112, 97, 114, 101, 85, 110, 109, 101, 116] : List Nat).map Char.ofNat
set_option maxRecDepth 100000 in
theorem head_is : Try.prog.initOrder = String.ofList headSigns := by kernel_rfl
set_option maxRecDepth 100000 in
theorem word_is : (behindMainWord (wordsSigns Try.prog.initOrder.toList)).head? = some "cut".toList := by
  rw [head_is, String.toList_ofList]
  kernel_rfl

/-- No lift is stripped off words that begin with 'cut'. -/
theorem strip_cut (ws : List (List Char)) (h : ws.head? = some "cut".toList) : stripLifts liftWords ws = ([], ws) := by
  cases ws with
  | nil => simp at h
  | cons c rest =>
    have hc : c = "cut".toList := by simpa using h
    subst hc
    unfold liftWords
    repeat rw [stripLifts, if_neg (by decide)]
    rw [stripLifts]
theorem lifts_of (P : Program) (h : (behindMainWord (wordsSigns P.initOrder.toList)).head? = some "cut".toList) : P.headLifts = [] := by
  unfold Program.headLifts
  rw [strip_cut _ h]
  simp [h]
theorem may_of (P : Program) (h : (behindMainWord (wordsSigns P.initOrder.toList)).head? = some "cut".toList) (h2 : P.laysLater = false) (h3 : P.bearsReflect = false) (h4 : P.doorFits [] = true) : P.mayEnter = true := by
  unfold Program.mayEnter
  generalize behindMainWord (wordsSigns P.initOrder.toList) = ws at h
  cases ws with
  | nil => simp at h
  | cons c rest =>
    simp only [strip_cut _ h, h, h2, h3, h4]
    simp
theorem final_of (P : Program) (h : (behindMainWord (wordsSigns P.initOrder.toList)).head? = some "cut".toList) : P.liftsFinal = false := by
  unfold Program.liftsFinal
  rw [lifts_of P h]
  simp [h]
theorem make_of (P : Program) (h : (behindMainWord (wordsSigns P.initOrder.toList)).head? = some "cut".toList) : P.make = some .cut := by
  unfold Program.make
  generalize behindMainWord (wordsSigns P.initOrder.toList) = ws at h
  cases ws with
  | nil => simp at h
  | cons c rest =>
    have hc : c = "cut".toList := by simpa using h
    subst hc
    simp

theorem may_enter : Try.prog.mayEnter = true := may_of Try.prog word_is (by kernel_rfl) (by kernel_rfl) (by kernel_rfl)
theorem lifts_final : Try.prog.liftsFinal = false := final_of Try.prog word_is
theorem make_is : Try.prog.make = some .cut := make_of Try.prog word_is

theorem both {a b : Bool} (h : a = true) (k : b = true) : (a && b) = true := by rw [h, k]; rfl
theorem beq_of {x y : Bool} (h : y = x) : (x == y) = true := by rw [h]; exact beq_self_eq_true _
theorem make_beq {x y : Option Make} (h : x = y) : (x == y) = true := by rw [h]; exact beq_self_eq_true _
end Go.Proofs.Qxb6003384a
