/-
  DERIVED. GIVEN WITH THE SEED: THE CARDS: each row of YtahnhhkbdgaidaaGreatDoorRows.lean that lists a variable, with what it lists TIED to the program's text (the seventh form; the later family's looks); each row that meets fmt, with fmt's text TOLD by the authors' own Lean function (tested against real Go, not proved from fmt's source: count such statements apart). THE CARD IS WHAT COUNTS. Prove the row's statement (the work); the ties are given (YtahnhhkbdgaidaaGreatDoorTie.lean); close each card by the builder's one call (the guide's Derived/Test/ToyasCard.lean, 'card_holds'). Laid BY PROGRAM, IN A SANDBOX (cutbox-door.mjs). By AI agents, Wed Nov 11 2026. No macro, syntax, notation, axiom, sorry.
-/
import Derived.Test.YtahnhhkbdgaidaaGreatDoorRows
import GoSem.ClaimSeven
namespace Go.Proofs.YtahnhhkbdgaidaaGreatDoor
namespace Rows

/-- THE TIED CARD OF 'laws.FnTextSame'. -/
def fnTextSameCard : Claim7 := { stood := { row := fnTextSameRow, standIns := [], harness := (true, "bcefe96e41a295846b64a808f7eecb661ec1642fb27597c1fc2bce32b76c8fe5"), looks := true }, kinds := [], alts := [], laidByText := true, laidKinds := [.data, .data, .data, .data, .pinned, .pinned], laidTests := true, laidLooks := .later }
def FnTextSameCardSaid : Prop := Claim7.holds Tryz.pinned (.plain (OpenSpec.ofChange fnTextSameSpec)) fnTextSameCard

/-- THE TIED CARD OF 'laws.FnJSONFlat'. -/
def fnJSONFlatCard : Claim7 := { stood := { row := fnJSONFlatRow, standIns := [], harness := (true, "bcefe96e41a295846b64a808f7eecb661ec1642fb27597c1fc2bce32b76c8fe5"), looks := true }, kinds := [], alts := [], laidByText := true, laidKinds := [.data, .data, .data, .data, .pinned, .pinned], laidTests := true, laidLooks := .later }
def FnJSONFlatCardSaid : Prop := Claim7.holds Tryz.pinned (.plain (OpenSpec.ofChange fnJSONFlatSpec)) fnJSONFlatCard

/-- THE TIED CARD OF 'laws.FnBytesAgain'. -/
def fnBytesAgainCard : Claim7 := { stood := { row := fnBytesAgainRow, standIns := [], harness := (true, "bcefe96e41a295846b64a808f7eecb661ec1642fb27597c1fc2bce32b76c8fe5"), looks := true }, kinds := [], alts := [], laidByText := true, laidKinds := [.sentinel], laidTests := true, laidLooks := .later }
def FnBytesAgainCardSaid : Prop := Claim7.holds Tryz.pinned (.plain (OpenSpec.ofChange fnBytesAgainSpec)) fnBytesAgainCard

/-- THE TIED CARD OF 'laws.FnBytesBack'. -/
def fnBytesBackCard : Claim7 := { stood := { row := fnBytesBackRow, standIns := [], harness := (true, "bcefe96e41a295846b64a808f7eecb661ec1642fb27597c1fc2bce32b76c8fe5"), looks := true }, kinds := [], alts := [], laidByText := true, laidKinds := [.sentinel], laidTests := true, laidLooks := .later }
def FnBytesBackCardSaid : Prop := Claim7.holds Tryz.pinned (.plain (OpenSpec.ofChange fnBytesBackSpec)) fnBytesBackCard

/-- THE SECOND FORM's CARD OF 'laws.FnTextSame'. -/
def fnTextSameUptoCard : Claim7 := { stood := { row := fnTextSameUptoRow, standIns := [], harness := (true, "bcefe96e41a295846b64a808f7eecb661ec1642fb27597c1fc2bce32b76c8fe5"), looks := true }, kinds := [], alts := [], laidByText := true, laidKinds := [.data, .data, .data, .data, .pinned, .pinned], laidTests := true, laidLooks := .later }
def FnTextSameUptoCardSaid : Prop := Claim7.holds Tryz.pinned (.plain (OpenSpec.upto fnTextSameSpec)) fnTextSameUptoCard

/-- THE SECOND FORM's CARD OF 'laws.FnJSONFlat'. -/
def fnJSONFlatUptoCard : Claim7 := { stood := { row := fnJSONFlatUptoRow, standIns := [], harness := (true, "bcefe96e41a295846b64a808f7eecb661ec1642fb27597c1fc2bce32b76c8fe5"), looks := true }, kinds := [], alts := [], laidByText := true, laidKinds := [.data, .data, .data, .data, .pinned, .pinned], laidTests := true, laidLooks := .later }
def FnJSONFlatUptoCardSaid : Prop := Claim7.holds Tryz.pinned (.plain (OpenSpec.upto fnJSONFlatSpec)) fnJSONFlatUptoCard

/-- THE SECOND FORM's CARD OF 'laws.FnBytesAgain'. -/
def fnBytesAgainUptoCard : Claim7 := { stood := { row := fnBytesAgainUptoRow, standIns := [], harness := (true, "bcefe96e41a295846b64a808f7eecb661ec1642fb27597c1fc2bce32b76c8fe5"), looks := true }, kinds := [], alts := [], laidByText := true, laidKinds := [.sentinel], laidTests := true, laidLooks := .later }
def FnBytesAgainUptoCardSaid : Prop := Claim7.holds Tryz.pinned (.plain (OpenSpec.upto fnBytesAgainSpec)) fnBytesAgainUptoCard

/-- THE SECOND FORM's CARD OF 'laws.FnBytesBack'. -/
def fnBytesBackUptoCard : Claim7 := { stood := { row := fnBytesBackUptoRow, standIns := [], harness := (true, "bcefe96e41a295846b64a808f7eecb661ec1642fb27597c1fc2bce32b76c8fe5"), looks := true }, kinds := [], alts := [], laidByText := true, laidKinds := [.sentinel], laidTests := true, laidLooks := .later }
def FnBytesBackUptoCardSaid : Prop := Claim7.holds Tryz.pinned (.plain (OpenSpec.upto fnBytesBackSpec)) fnBytesBackUptoCard
end Rows
end Go.Proofs.YtahnhhkbdgaidaaGreatDoor
