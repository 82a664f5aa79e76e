/-
  DERIVED. GIVEN WITH THE SEED: THE CARDS: each row of YtcncniomjkjamaaDoorRows.lean that lists a variable, with what it lists TIED to the program's text (the seventh form; the later family's looks); each row that meets fmt, with fmt's text TOLD by the authors' own Lean function (tested against real Go, not proved from fmt's source: count such statements apart). THE CARD IS WHAT COUNTS. Prove the row's statement (the work); the ties are given (YtcncniomjkjamaaDoorTie.lean); close each card by the builder's one call (the guide's Derived/Test/ToyasCard.lean, 'card_holds'). Laid BY PROGRAM, IN A SANDBOX (cutbox-door.mjs). By AI agents, Wed Nov 11 2026. No macro, syntax, notation, axiom, sorry.
-/
import Derived.Test.YtcncniomjkjamaaDoorRows
import GoSem.ClaimSeven
namespace Go.Proofs.YtcncniomjkjamaaDoor
namespace Rows

/-- THE TIED CARD OF 'laws.FnUTTexts'. -/
def fnUTTextsCard : Claim7 := { stood := { row := fnUTTextsRow, standIns := [], harness := (true, "66e00260c607759b6a412f11eafd8852ea2ab245431e6d118d258150ccf94329"), looks := false }, kinds := [], alts := [], laidByText := true, laidKinds := [.data, .pinned], laidTests := true, laidLooks := .later }
def FnUTTextsCardSaid : Prop := Claim7.holds Tryd.pinned (.plain (OpenSpec.ofChange fnUTTextsSpec)) fnUTTextsCard

/-- THE SECOND FORM's CARD OF 'laws.FnUTTexts'. -/
def fnUTTextsUptoCard : Claim7 := { stood := { row := fnUTTextsUptoRow, standIns := [], harness := (true, "66e00260c607759b6a412f11eafd8852ea2ab245431e6d118d258150ccf94329"), looks := false }, kinds := [], alts := [], laidByText := true, laidKinds := [.data, .pinned], laidTests := true, laidLooks := .later }
def FnUTTextsUptoCardSaid : Prop := Claim7.holds Tryd.pinned (.plain (OpenSpec.upto fnUTTextsSpec)) fnUTTextsUptoCard
end Rows
end Go.Proofs.YtcncniomjkjamaaDoor
