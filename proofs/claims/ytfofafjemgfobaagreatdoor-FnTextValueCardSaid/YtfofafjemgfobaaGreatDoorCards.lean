/-
  DERIVED. GIVEN WITH THE SEED: THE CARDS: each row of YtfofafjemgfobaaGreatDoorRows.lean that lists a variable, with what it lists TIED to the program's text (the seventh form; the later family's looks); each row that meets fmt, with fmt's text TOLD by the authors' own Lean function (tested against real Go, not proved from fmt's source: count such statements apart). THE CARD IS WHAT COUNTS. Prove the row's statement (the work); the ties are given (YtfofafjemgfobaaGreatDoorTie.lean); close each card by the builder's one call (the guide's Derived/Test/ToyasCard.lean, 'card_holds'). Laid BY PROGRAM, IN A SANDBOX (cutbox-door.mjs). By AI agents, Wed Nov 11 2026. No macro, syntax, notation, axiom, sorry.
-/
import Derived.Test.YtfofafjemgfobaaGreatDoorRows
import GoSem.ClaimSeven
namespace Go.Proofs.YtfofafjemgfobaaGreatDoor
namespace Rows

/-- THE TIED CARD OF 'laws.FnExtCanonical'. -/
def fnExtCanonicalCard : Claim7 := { stood := { row := fnExtCanonicalRow, standIns := [], harness := (true, "2dfdca022ddedeb87d9f23a936e76c9078c6de078b8fb0f421be03357b11262e"), looks := false }, kinds := [], alts := [], laidByText := true, laidKinds := [.data, .data, .data, .data, .data, .sentinel, .data, .data, .sentinel, .pinned, .pinned, .pinned], laidTests := true, laidLooks := .later }
def FnExtCanonicalCardSaid : Prop := Claim7.holds Tryz.pinned (.plain (OpenSpec.ofChange fnExtCanonicalSpec)) fnExtCanonicalCard

/-- THE TIED CARD OF 'laws.FnTextCut'. -/
def fnTextCutCard : Claim7 := { stood := { row := fnTextCutRow, standIns := [], harness := (true, "2dfdca022ddedeb87d9f23a936e76c9078c6de078b8fb0f421be03357b11262e"), looks := false }, kinds := [], alts := [], laidByText := true, laidKinds := [.data, .data, .data, .data, .data, .sentinel, .data, .data, .pinned, .pinned, .pinned], laidTests := true, laidLooks := .later }
def FnTextCutCardSaid : Prop := Claim7.holds Tryz.pinned (.plain (OpenSpec.ofChange fnTextCutSpec)) fnTextCutCard

/-- THE TIED CARD OF 'laws.FnTextValue'. -/
def fnTextValueCard : Claim7 := { stood := { row := fnTextValueRow, standIns := [], harness := (true, "2dfdca022ddedeb87d9f23a936e76c9078c6de078b8fb0f421be03357b11262e"), looks := false }, kinds := [], alts := [], laidByText := true, laidKinds := [.data, .data, .data, .data, .data, .sentinel, .data, .data, .pinned, .pinned, .pinned], laidTests := true, laidLooks := .later }
def FnTextValueCardSaid : Prop := Claim7.holds Tryz.pinned (.plain (OpenSpec.ofChange fnTextValueSpec)) fnTextValueCard

/-- THE SECOND FORM's CARD OF 'laws.FnExtCanonical'. -/
def fnExtCanonicalUptoCard : Claim7 := { stood := { row := fnExtCanonicalUptoRow, standIns := [], harness := (true, "2dfdca022ddedeb87d9f23a936e76c9078c6de078b8fb0f421be03357b11262e"), looks := false }, kinds := [], alts := [], laidByText := true, laidKinds := [.data, .data, .data, .data, .data, .sentinel, .data, .data, .sentinel, .pinned, .pinned, .pinned], laidTests := true, laidLooks := .later }
def FnExtCanonicalUptoCardSaid : Prop := Claim7.holds Tryz.pinned (.plain (OpenSpec.upto fnExtCanonicalSpec)) fnExtCanonicalUptoCard

/-- THE SECOND FORM's CARD OF 'laws.FnTextCut'. -/
def fnTextCutUptoCard : Claim7 := { stood := { row := fnTextCutUptoRow, standIns := [], harness := (true, "2dfdca022ddedeb87d9f23a936e76c9078c6de078b8fb0f421be03357b11262e"), looks := false }, kinds := [], alts := [], laidByText := true, laidKinds := [.data, .data, .data, .data, .data, .sentinel, .data, .data, .pinned, .pinned, .pinned], laidTests := true, laidLooks := .later }
def FnTextCutUptoCardSaid : Prop := Claim7.holds Tryz.pinned (.plain (OpenSpec.upto fnTextCutSpec)) fnTextCutUptoCard

/-- THE SECOND FORM's CARD OF 'laws.FnTextValue'. -/
def fnTextValueUptoCard : Claim7 := { stood := { row := fnTextValueUptoRow, standIns := [], harness := (true, "2dfdca022ddedeb87d9f23a936e76c9078c6de078b8fb0f421be03357b11262e"), looks := false }, kinds := [], alts := [], laidByText := true, laidKinds := [.data, .data, .data, .data, .data, .sentinel, .data, .data, .pinned, .pinned, .pinned], laidTests := true, laidLooks := .later }
def FnTextValueUptoCardSaid : Prop := Claim7.holds Tryz.pinned (.plain (OpenSpec.upto fnTextValueSpec)) fnTextValueUptoCard
end Rows
end Go.Proofs.YtfofafjemgfobaaGreatDoor
