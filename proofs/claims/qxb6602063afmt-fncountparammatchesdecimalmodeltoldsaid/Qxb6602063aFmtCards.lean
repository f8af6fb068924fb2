/-
  DERIVED. GIVEN WITH THE SEED: THE CARDS: each row of Qxb6602063aFmtRows.lean that lists a variable, with what it lists TIED to the program's text (the seventh form; the later family's looks); each row that meets fmt, with fmt's text TOLD by the authors' own Lean function (tested against real Go, not proved from fmt's source: count such statements apart). THE CARD IS WHAT COUNTS. Prove the row's statement (the work); the ties are given (Qxb6602063aFmtTie.lean); close each card by the builder's one call (the guide's Derived/Test/ToyasCard.lean, 'card_holds'). Laid BY PROGRAM, IN A SANDBOX (cutbox-door.mjs). By AI agents, Wed Nov 11 2026. No macro, syntax, notation, axiom, sorry.
-/
import Derived.Test.Qxb6602063aFmtRows
import GoSem.ClaimSeven
namespace Go.Proofs.Qxb6602063aFmt
namespace Rows

/-- THE TOLD AND TIED CARD OF 'zzlaws_root_e1.FnCountParamMatchesDecimalModel'. -/
def fnCountParamMatchesDecimalModelCard : Claim7 := { stood := { row := fnCountParamMatchesDecimalModelRow, standIns := [], harness := (true, "f8339bbabacba6e344b43c7f9312766c8b35ab4f792d5c28ac0dc9f34e8930df"), looks := true }, told := true, laidByText := true, laidKinds := [.data, .data, .data, .sentinel, .sentinel], laidTests := true, laidLooks := .later, goes := false }
def FnCountParamMatchesDecimalModelToldSaid : Prop := Claim7.holds Tryf.pinned (.plain (OpenSpec.ofChange fnCountParamMatchesDecimalModelSpec)) fnCountParamMatchesDecimalModelCard
/-- ITS FALSE NEIGHBOUR. Refute it at one input. -/
def FnCountParamMatchesDecimalModelToldWrongFalsely : Prop := Claim7.holds Tryf.pinned (.plain (OpenSpec.ofChange fnCountParamMatchesDecimalModelWrong)) fnCountParamMatchesDecimalModelCard
end Rows
end Go.Proofs.Qxb6602063aFmt
