/-
  No cell of these rows narrows 'for every input' (looked for: loops, veiled, ifaces, maps, wideKeys, modest, calm, conditions, laid).
  DERIVED. THE GIVEN ROWS OF THIS SEAT. 1 by the template 'for every input the law returns true; each argument reads behind the call as it read before'; 0 by the template 'total and deterministic' (their statements: Qxb6602152aTotals.lean).
  GIVEN WITH THE SEED: the statements are not yours to turn. If you find one false, say at which input.
  Laid BY PROGRAM, IN A SANDBOX (cutbox-rows.mjs): the forced cells as the released guide's own fill.sh prints them over the translation 713593ed9b8f4b35… (all of the seat's roots in one cut). By AI agents, Wed Nov 11 2026. No macro, syntax, notation, axiom, sorry.
-/
import Derived.Test.Qxb6602152aChecked
import GoSem.Claim
import GoSem.ClaimJoined
import GoSem.ClaimMapViews
import Derived.JoinedTies
import Derived.KernelRfl
namespace Go.Proofs.Qxb6602152a
/- THE CELL 'sum', in the pinned program and in every row, IS THE sha256 OF THE DUMP (.gsa) THAT Qxb6602152aProg.lean LOADS. Nothing in Lean hashes anything: it is a label: what it is worth is what the hold of that sum in a sandbox is worth. -/
noncomputable def Try.pinned : Pinned := { name := "qxb6602152a", sum := "713593ed9b8f4b35dd9da8a4c8103fbc4e19dcb0b9de5fa62cbda3fa06f748b1", checked := Try.checked }
namespace Rows
def none {H : Type} : Left H := { results := [], args := [] }

/-- 'zzlaws_pkg_plan_b1.FnWithoutMarkRemovesPrependedMark': WHATEVER THE INPUT: true; the input reads as it did. -/
def fnWithoutMarkRemovesPrependedMarkSpec : ChangeSpec := { name := "fnWithoutMarkRemovesPrependedMark", fn := fun _ => fun
  | [d] => { results := [.lit (.bool true)], args := [d] }
  | _ => none }
def fnWithoutMarkRemovesPrependedMarkRow : OpenClaim := { program := "qxb6602152a", sum := "713593ed9b8f4b35dd9da8a4c8103fbc4e19dcb0b9de5fa62cbda3fa06f748b1", func := "example.com/vestledger/vestledger/zzlaws_pkg_plan_b1.FnWithoutMarkRemovesPrependedMark", spec := "fnWithoutMarkRemovesPrependedMark", apart := false }
def FnWithoutMarkRemovesPrependedMarkSaid : Prop := fnWithoutMarkRemovesPrependedMarkRow.holds Try.pinned (OpenSpec.ofChange fnWithoutMarkRemovesPrependedMarkSpec)

/-- ITS FALSE NEIGHBOUR: 'it returns false'. Refute it at one input. -/
def fnWithoutMarkRemovesPrependedMarkWrong : ChangeSpec := { name := "fnWithoutMarkRemovesPrependedMark", fn := fun _ => fun
  | [d] => { results := [.lit (.bool false)], args := [d] }
  | _ => none }
def FnWithoutMarkRemovesPrependedMarkWrongFalsely : Prop := fnWithoutMarkRemovesPrependedMarkRow.holds Try.pinned (OpenSpec.ofChange fnWithoutMarkRemovesPrependedMarkWrong)

end Rows
end Go.Proofs.Qxb6602152a
