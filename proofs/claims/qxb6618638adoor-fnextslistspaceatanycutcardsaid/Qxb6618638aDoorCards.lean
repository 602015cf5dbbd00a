/-
  DERIVED. GIVEN WITH THE SEED: THE CARDS: each row of Qxb6618638aDoorRows.lean that lists a variable, with what it lists TIED to the program's text (the seventh form; the later family's looks); each row that meets fmt, with fmt's text TOLD by the authors' own Lean function (tested against real Go, not proved from fmt's source: count such statements apart). THE CARD IS WHAT COUNTS. Prove the row's statement (the work); the ties are given (Qxb6618638aDoorTie.lean); close each card by the builder's one call (the guide's Derived/Test/ToyasCard.lean, 'card_holds'). Laid BY PROGRAM, IN A SANDBOX (cutbox-door.mjs). By AI agents, Wed Nov 11 2026. No macro, syntax, notation, axiom, sorry.
-/
import Derived.Test.Qxb6618638aDoorRows
import GoSem.ClaimSeven
namespace Go.Proofs.Qxb6618638aDoor
namespace Rows

/-- THE TIED CARD OF 'zzlaws_root_b1.FnExtsListSpaceAtAnyCut'. -/
def fnExtsListSpaceAtAnyCutCard : Claim7 := { stood := { row := fnExtsListSpaceAtAnyCutRow, standIns := [], harness := (true, "ab318770c910fd34f20011f4b6c7789b4a42ec3afc0df6807b06adbe4dc3dc30"), looks := false }, kinds := [], alts := [], laidByText := true, laidKinds := [.listed, .data], laidTests := true, laidLooks := .later }
def FnExtsListSpaceAtAnyCutCardSaid : Prop := Claim7.holds Tryd.pinned (.plain (OpenSpec.ofChange fnExtsListSpaceAtAnyCutSpec)) fnExtsListSpaceAtAnyCutCard

/-- THE TIED CARD OF 'zzlaws_root_b1.FnExtsListReadsOnlyItsOwnName'. -/
def fnExtsListReadsOnlyItsOwnNameCard : Claim7 := { stood := { row := fnExtsListReadsOnlyItsOwnNameRow, standIns := [], harness := (true, "ab318770c910fd34f20011f4b6c7789b4a42ec3afc0df6807b06adbe4dc3dc30"), looks := false }, kinds := [], alts := [], laidByText := true, laidKinds := [.listed, .data], laidTests := true, laidLooks := .later }
def FnExtsListReadsOnlyItsOwnNameCardSaid : Prop := Claim7.holds Tryd.pinned (.plain (OpenSpec.ofChange fnExtsListReadsOnlyItsOwnNameSpec)) fnExtsListReadsOnlyItsOwnNameCard
end Rows
end Go.Proofs.Qxb6618638aDoor
