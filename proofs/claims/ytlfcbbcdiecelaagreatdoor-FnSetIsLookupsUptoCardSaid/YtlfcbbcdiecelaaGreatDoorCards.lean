/-
  DERIVED. GIVEN WITH THE SEED: THE CARDS: each row of YtlfcbbcdiecelaaGreatDoorRows.lean that lists a variable, with what it lists TIED to the program's text (the seventh form; the later family's looks); each row that meets fmt, with fmt's text TOLD by the authors' own Lean function (tested against real Go, not proved from fmt's source: count such statements apart). THE CARD IS WHAT COUNTS. Prove the row's statement (the work); the ties are given (YtlfcbbcdiecelaaGreatDoorTie.lean); close each card by the builder's one call (the guide's Derived/Test/ToyasCard.lean, 'card_holds'). Laid BY PROGRAM, IN A SANDBOX (cutbox-door.mjs). By AI agents, Wed Nov 11 2026. No macro, syntax, notation, axiom, sorry.
-/
import Derived.Test.YtlfcbbcdiecelaaGreatDoorRows
import GoSem.ClaimSeven
namespace Go.Proofs.YtlfcbbcdiecelaaGreatDoor
namespace Rows

/-- THE TIED CARD OF 'laws.FnSetIsLookups'. -/
def fnSetIsLookupsCard : Claim7 := { stood := { row := fnSetIsLookupsRow, standIns := [], harness := (true, "4a06d2c96ae78c4bed7e9d7f205aea2826e591a6c70b620d859b62a4334f3f52"), looks := true }, kinds := [], alts := [], laidByText := true, laidKinds := [.data, .data, .data, .data, .pinned, .pinned, .pinned], laidTests := true, laidLooks := .later }
def FnSetIsLookupsCardSaid : Prop := Claim7.holds Tryz.pinned (.plain (OpenSpec.ofChange fnSetIsLookupsSpec)) fnSetIsLookupsCard

/-- THE TIED CARD OF 'laws.FnMethodSet'. -/
def fnMethodSetCard : Claim7 := { stood := { row := fnMethodSetRow, standIns := [], harness := (true, "4a06d2c96ae78c4bed7e9d7f205aea2826e591a6c70b620d859b62a4334f3f52"), looks := true }, kinds := [], alts := [], laidByText := true, laidKinds := [.data, .data, .data, .data, .pinned, .pinned, .pinned], laidTests := true, laidLooks := .later }
def FnMethodSetCardSaid : Prop := Claim7.holds Tryz.pinned (.plain (OpenSpec.ofChange fnMethodSetSpec)) fnMethodSetCard

/-- THE SECOND FORM's CARD OF 'laws.FnSetIsLookups'. -/
def fnSetIsLookupsUptoCard : Claim7 := { stood := { row := fnSetIsLookupsUptoRow, standIns := [], harness := (true, "4a06d2c96ae78c4bed7e9d7f205aea2826e591a6c70b620d859b62a4334f3f52"), looks := true }, kinds := [], alts := [], laidByText := true, laidKinds := [.data, .data, .data, .data, .pinned, .pinned, .pinned], laidTests := true, laidLooks := .later }
def FnSetIsLookupsUptoCardSaid : Prop := Claim7.holds Tryz.pinned (.plain (OpenSpec.upto fnSetIsLookupsSpec)) fnSetIsLookupsUptoCard

/-- THE SECOND FORM's CARD OF 'laws.FnMethodSet'. -/
def fnMethodSetUptoCard : Claim7 := { stood := { row := fnMethodSetUptoRow, standIns := [], harness := (true, "4a06d2c96ae78c4bed7e9d7f205aea2826e591a6c70b620d859b62a4334f3f52"), looks := true }, kinds := [], alts := [], laidByText := true, laidKinds := [.data, .data, .data, .data, .pinned, .pinned, .pinned], laidTests := true, laidLooks := .later }
def FnMethodSetUptoCardSaid : Prop := Claim7.holds Tryz.pinned (.plain (OpenSpec.upto fnMethodSetSpec)) fnMethodSetUptoCard
end Rows
end Go.Proofs.YtlfcbbcdiecelaaGreatDoor
