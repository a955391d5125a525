/-
  No cell of these rows narrows 'for every input' (looked for: loops, veiled, ifaces, maps, wideKeys, modest, calm, conditions, laid).
  DERIVED. THE GIVEN ROWS OF THIS SEAT. 1 by the template 'for every input the law returns true; each argument reads behind the call as it read before'; 0 by the template 'total and deterministic' (their statements: Qxb6003384aTotals.lean).
  GIVEN WITH THE SEED: the statements are not yours to turn. If you find one false, say at which input.
  Laid BY PROGRAM, IN A SANDBOX (cutbox-rows.mjs): the forced cells as the released guide's own fill.sh prints them over the translation 569750e5d3061566… (all of the seat's roots in one cut). By AI agents, Wed Nov 11 2026. No macro, syntax, notation, axiom, sorry.
-/
import Derived.Test.Qxb6003384aChecked
import GoSem.Claim
import GoSem.ClaimJoined
import GoSem.ClaimMapViews
import Derived.JoinedTies
import Derived.KernelRfl
namespace Go.Proofs.Qxb6003384a
/- THE CELL 'sum', in the pinned program and in every row, IS THE sha256 OF THE DUMP (.gsa) THAT Qxb6003384aProg.lean LOADS. Nothing in Lean hashes anything: it is a label: what it is worth is what the hold of that sum in a sandbox is worth. -/
noncomputable def Try.pinned : Pinned := { name := "qxb6003384a", sum := "569750e5d3061566b1b971bc3df971bf03d6206ada0ca1f08eaff8328d859db0", checked := Try.checked }
namespace Rows
def none {H : Type} : Left H := { results := [], args := [] }

/-- 'zzlaws_root_g1.FnAllButMetExactlyWhenAtMostSpareUnmet': WHATEVER THE INPUT: true; the input reads as it did. -/
def fnAllButMetExactlyWhenAtMostSpareUnmetSpec : ChangeSpec := { name := "fnAllButMetExactlyWhenAtMostSpareUnmet", fn := fun _ => fun
  | [d1, d2, d3] => { results := [.lit (.bool true)], args := [d1, d2, d3] }
  | _ => none }
def fnAllButMetExactlyWhenAtMostSpareUnmetRow : OpenClaim := { program := "qxb6003384a", sum := "569750e5d3061566b1b971bc3df971bf03d6206ada0ca1f08eaff8328d859db0", func := "example.com/knotwise/knotwise/zzlaws_root_g1.FnAllButMetExactlyWhenAtMostSpareUnmet", spec := "fnAllButMetExactlyWhenAtMostSpareUnmet", recurses := true, apart := false }
def FnAllButMetExactlyWhenAtMostSpareUnmetSaid : Prop := fnAllButMetExactlyWhenAtMostSpareUnmetRow.holds Try.pinned (OpenSpec.ofChange fnAllButMetExactlyWhenAtMostSpareUnmetSpec)

/-- ITS FALSE NEIGHBOUR: 'it returns false'. Refute it at one input. -/
def fnAllButMetExactlyWhenAtMostSpareUnmetWrong : ChangeSpec := { name := "fnAllButMetExactlyWhenAtMostSpareUnmet", fn := fun _ => fun
  | [d1, d2, d3] => { results := [.lit (.bool false)], args := [d1, d2, d3] }
  | _ => none }
def FnAllButMetExactlyWhenAtMostSpareUnmetWrongFalsely : Prop := fnAllButMetExactlyWhenAtMostSpareUnmetRow.holds Try.pinned (OpenSpec.ofChange fnAllButMetExactlyWhenAtMostSpareUnmetWrong)

end Rows
end Go.Proofs.Qxb6003384a
