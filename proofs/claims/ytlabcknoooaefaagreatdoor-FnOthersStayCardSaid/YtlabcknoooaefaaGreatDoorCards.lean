/-
  DERIVED. GIVEN WITH THE SEED: THE CARDS: each row of YtlabcknoooaefaaGreatDoorRows.lean that lists a variable, with what it lists TIED to the program's text (the seventh form; the later family's looks); each row that meets fmt, with fmt's text TOLD by the authors' own Lean function (tested against real Go, not proved from fmt's source: count such statements apart). THE CARD IS WHAT COUNTS. Prove the row's statement (the work); the ties are given (YtlabcknoooaefaaGreatDoorTie.lean); close each card by the builder's one call (the guide's Derived/Test/ToyasCard.lean, 'card_holds'). Laid BY PROGRAM, IN A SANDBOX (cutbox-door.mjs). By AI agents, Wed Nov 11 2026. No macro, syntax, notation, axiom, sorry.
-/
import Derived.Test.YtlabcknoooaefaaGreatDoorRows
import GoSem.ClaimSeven
namespace Go.Proofs.YtlabcknoooaefaaGreatDoor
namespace Rows

/-- THE TIED CARD OF 'laws.FnOneByOne'. -/
def fnOneByOneCard : Claim7 := { stood := { row := fnOneByOneRow, standIns := [], harness := (true, "1ba891f40c9ad1e097fa13bf0b9dcac7a51e2b82ae9ef8c63d70416ef88d7af2"), looks := true }, kinds := [], alts := [], laidByText := true, laidKinds := [.sentinel, .sentinel, .sentinel, .data], laidTests := true, laidLooks := .later }
def FnOneByOneCardSaid : Prop := Claim7.holds Tryz.pinned (.plain (OpenSpec.ofChange fnOneByOneSpec)) fnOneByOneCard

/-- THE TIED CARD OF 'laws.FnOthersStay'. -/
def fnOthersStayCard : Claim7 := { stood := { row := fnOthersStayRow, standIns := [], harness := (true, "1ba891f40c9ad1e097fa13bf0b9dcac7a51e2b82ae9ef8c63d70416ef88d7af2"), looks := true }, kinds := [], alts := [], laidByText := true, laidKinds := [.sentinel, .sentinel, .sentinel, .data], laidTests := true, laidLooks := .later }
def FnOthersStayCardSaid : Prop := Claim7.holds Tryz.pinned (.plain (OpenSpec.ofChange fnOthersStaySpec)) fnOthersStayCard

/-- THE TIED CARD OF 'laws.FnSeekSame'. -/
def fnSeekSameCard : Claim7 := { stood := { row := fnSeekSameRow, standIns := [], harness := (true, "1ba891f40c9ad1e097fa13bf0b9dcac7a51e2b82ae9ef8c63d70416ef88d7af2"), looks := true }, kinds := [], alts := [], laidByText := true, laidKinds := [.sentinel, .sentinel, .sentinel, .data], laidTests := true, laidLooks := .later }
def FnSeekSameCardSaid : Prop := Claim7.holds Tryz.pinned (.plain (OpenSpec.ofChange fnSeekSameSpec)) fnSeekSameCard

/-- THE SECOND FORM's CARD OF 'laws.FnOneByOne'. -/
def fnOneByOneUptoCard : Claim7 := { stood := { row := fnOneByOneUptoRow, standIns := [], harness := (true, "1ba891f40c9ad1e097fa13bf0b9dcac7a51e2b82ae9ef8c63d70416ef88d7af2"), looks := true }, kinds := [], alts := [], laidByText := true, laidKinds := [.sentinel, .sentinel, .sentinel, .data], laidTests := true, laidLooks := .later }
def FnOneByOneUptoCardSaid : Prop := Claim7.holds Tryz.pinned (.plain (OpenSpec.upto fnOneByOneSpec)) fnOneByOneUptoCard

/-- THE SECOND FORM's CARD OF 'laws.FnOthersStay'. -/
def fnOthersStayUptoCard : Claim7 := { stood := { row := fnOthersStayUptoRow, standIns := [], harness := (true, "1ba891f40c9ad1e097fa13bf0b9dcac7a51e2b82ae9ef8c63d70416ef88d7af2"), looks := true }, kinds := [], alts := [], laidByText := true, laidKinds := [.sentinel, .sentinel, .sentinel, .data], laidTests := true, laidLooks := .later }
def FnOthersStayUptoCardSaid : Prop := Claim7.holds Tryz.pinned (.plain (OpenSpec.upto fnOthersStaySpec)) fnOthersStayUptoCard

/-- THE SECOND FORM's CARD OF 'laws.FnSeekSame'. -/
def fnSeekSameUptoCard : Claim7 := { stood := { row := fnSeekSameUptoRow, standIns := [], harness := (true, "1ba891f40c9ad1e097fa13bf0b9dcac7a51e2b82ae9ef8c63d70416ef88d7af2"), looks := true }, kinds := [], alts := [], laidByText := true, laidKinds := [.sentinel, .sentinel, .sentinel, .data], laidTests := true, laidLooks := .later }
def FnSeekSameUptoCardSaid : Prop := Claim7.holds Tryz.pinned (.plain (OpenSpec.upto fnSeekSameSpec)) fnSeekSameUptoCard
end Rows
end Go.Proofs.YtlabcknoooaefaaGreatDoor
