/-
  DERIVED. GIVEN WITH THE SEED: THE CARDS: each row of YtijgloklmiokhaaGreatDoorRows.lean that lists a variable, with what it lists TIED to the program's text (the seventh form; the later family's looks); each row that meets fmt, with fmt's text TOLD by the authors' own Lean function (tested against real Go, not proved from fmt's source: count such statements apart). THE CARD IS WHAT COUNTS. Prove the row's statement (the work); the ties are given (YtijgloklmiokhaaGreatDoorTie.lean); close each card by the builder's one call (the guide's Derived/Test/ToyasCard.lean, 'card_holds'). Laid BY PROGRAM, IN A SANDBOX (cutbox-door.mjs). By AI agents, Wed Nov 11 2026. No macro, syntax, notation, axiom, sorry.
-/
import Derived.Test.YtijgloklmiokhaaGreatDoorRows
import GoSem.ClaimSeven
namespace Go.Proofs.YtijgloklmiokhaaGreatDoor
namespace Rows

/-- THE TIED CARD OF 'laws.FnScalarRun'. -/
def fnScalarRunCard : Claim7 := { stood := { row := fnScalarRunRow, standIns := [], harness := (true, "c4f8c4b9d6c2c3d583d7db44333b59d9ad249bc6bc9779f428ba29c7ccd43dc5"), looks := true }, kinds := [], alts := [], laidByText := true, laidKinds := [.sentinel, .sentinel, .sentinel, .data, .data, .data, .data], laidTests := true, laidLooks := .later }
def FnScalarRunCardSaid : Prop := Claim7.holds Tryz.pinned (.plain (OpenSpec.ofChange fnScalarRunSpec)) fnScalarRunCard

/-- THE TIED CARD OF 'laws.FnScalarInverse'. -/
def fnScalarInverseCard : Claim7 := { stood := { row := fnScalarInverseRow, standIns := [], harness := (true, "c4f8c4b9d6c2c3d583d7db44333b59d9ad249bc6bc9779f428ba29c7ccd43dc5"), looks := true }, kinds := [], alts := [], laidByText := true, laidKinds := [.sentinel, .sentinel, .sentinel, .data, .data, .data, .data], laidTests := true, laidLooks := .later }
def FnScalarInverseCardSaid : Prop := Claim7.holds Tryz.pinned (.plain (OpenSpec.ofChange fnScalarInverseSpec)) fnScalarInverseCard

/-- THE SECOND FORM's CARD OF 'laws.FnScalarRun'. -/
def fnScalarRunUptoCard : Claim7 := { stood := { row := fnScalarRunUptoRow, standIns := [], harness := (true, "c4f8c4b9d6c2c3d583d7db44333b59d9ad249bc6bc9779f428ba29c7ccd43dc5"), looks := true }, kinds := [], alts := [], laidByText := true, laidKinds := [.sentinel, .sentinel, .sentinel, .data, .data, .data, .data], laidTests := true, laidLooks := .later }
def FnScalarRunUptoCardSaid : Prop := Claim7.holds Tryz.pinned (.plain (OpenSpec.upto fnScalarRunSpec)) fnScalarRunUptoCard

/-- THE SECOND FORM's CARD OF 'laws.FnScalarInverse'. -/
def fnScalarInverseUptoCard : Claim7 := { stood := { row := fnScalarInverseUptoRow, standIns := [], harness := (true, "c4f8c4b9d6c2c3d583d7db44333b59d9ad249bc6bc9779f428ba29c7ccd43dc5"), looks := true }, kinds := [], alts := [], laidByText := true, laidKinds := [.sentinel, .sentinel, .sentinel, .data, .data, .data, .data], laidTests := true, laidLooks := .later }
def FnScalarInverseUptoCardSaid : Prop := Claim7.holds Tryz.pinned (.plain (OpenSpec.upto fnScalarInverseSpec)) fnScalarInverseUptoCard
end Rows
end Go.Proofs.YtijgloklmiokhaaGreatDoor
