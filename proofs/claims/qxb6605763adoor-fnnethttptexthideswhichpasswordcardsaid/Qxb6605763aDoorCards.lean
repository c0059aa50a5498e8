/-
  DERIVED. GIVEN WITH THE SEED: THE CARDS: each row of Qxb6605763aDoorRows.lean that lists a variable, with what it lists TIED to the program's text (the seventh form; the later family's looks); each row that meets fmt, with fmt's text TOLD by the authors' own Lean function (tested against real Go, not proved from fmt's source: count such statements apart). THE CARD IS WHAT COUNTS. Prove the row's statement (the work); the ties are given (Qxb6605763aDoorTie.lean); close each card by the builder's one call (the guide's Derived/Test/ToyasCard.lean, 'card_holds'). Laid BY PROGRAM, IN A SANDBOX (cutbox-door.mjs). By AI agents, Wed Nov 11 2026. No macro, syntax, notation, axiom, sorry.
-/
import Derived.Test.Qxb6605763aDoorRows
import GoSem.ClaimSeven
namespace Go.Proofs.Qxb6605763aDoor
namespace Rows

/-- THE TIED CARD OF 'zzlaws_root_b1.FnNetHTTPTextIsNetHTTPsStrippedText'. -/
def fnNetHTTPTextIsNetHTTPsStrippedTextCard : Claim7 := { stood := { row := fnNetHTTPTextIsNetHTTPsStrippedTextRow, standIns := [], harness := (true, "1541fe08459fd64aec1d0ca98dcdefae981afbde23789be55cb78e8230a9ebda"), looks := false }, kinds := [], alts := [], laidByText := true, laidKinds := [.data], laidTests := true, laidLooks := .later }
def FnNetHTTPTextIsNetHTTPsStrippedTextCardSaid : Prop := Claim7.holds Tryd.pinned (.plain (OpenSpec.ofChange fnNetHTTPTextIsNetHTTPsStrippedTextSpec)) fnNetHTTPTextIsNetHTTPsStrippedTextCard

/-- THE TIED CARD OF 'zzlaws_root_b1.FnNetHTTPTextHidesWhichPassword'. -/
def fnNetHTTPTextHidesWhichPasswordCard : Claim7 := { stood := { row := fnNetHTTPTextHidesWhichPasswordRow, standIns := [], harness := (true, "1541fe08459fd64aec1d0ca98dcdefae981afbde23789be55cb78e8230a9ebda"), looks := false }, kinds := [], alts := [], laidByText := true, laidKinds := [.data], laidTests := true, laidLooks := .later }
def FnNetHTTPTextHidesWhichPasswordCardSaid : Prop := Claim7.holds Tryd.pinned (.plain (OpenSpec.ofChange fnNetHTTPTextHidesWhichPasswordSpec)) fnNetHTTPTextHidesWhichPasswordCard
end Rows
end Go.Proofs.Qxb6605763aDoor
