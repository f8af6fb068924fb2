/-
  DERIVED. GIVEN WITH THE SEED: THE CARDS: each row of Qxb6603248aDoorRows.lean that lists a variable, with what it lists TIED to the program's text (the seventh form; the later family's looks); each row that meets fmt, with fmt's text TOLD by the authors' own Lean function (tested against real Go, not proved from fmt's source: count such statements apart). THE CARD IS WHAT COUNTS. Prove the row's statement (the work); the ties are given (Qxb6603248aDoorTie.lean); close each card by the builder's one call (the guide's Derived/Test/ToyasCard.lean, 'card_holds'). Laid BY PROGRAM, IN A SANDBOX (cutbox-door.mjs). By AI agents, Wed Nov 11 2026. No macro, syntax, notation, axiom, sorry.
-/
import Derived.Test.Qxb6603248aDoorRows
import GoSem.ClaimSeven
namespace Go.Proofs.Qxb6603248aDoor
namespace Rows

/-- THE TIED CARD OF 'zzlaws_internal_format_b1.FnReadsParsesBack'. -/
def fnReadsParsesBackCard : Claim7 := { stood := { row := fnReadsParsesBackRow, standIns := [], harness := (true, "d936b10007e9220fa978785c2309c27c90e8e2efaacd1a4d5194f7c92327a010"), looks := false }, kinds := [], alts := [], laidByText := true, laidKinds := [.data, .data, .data], laidTests := true, laidLooks := .later }
def FnReadsParsesBackCardSaid : Prop := Claim7.holds Tryd.pinned (.plain (OpenSpec.ofChange fnReadsParsesBackSpec)) fnReadsParsesBackCard
end Rows
end Go.Proofs.Qxb6603248aDoor
