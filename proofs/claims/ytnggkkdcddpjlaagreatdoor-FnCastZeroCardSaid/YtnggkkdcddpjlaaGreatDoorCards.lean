/-
  DERIVED. GIVEN WITH THE SEED: THE CARDS: each row of YtnggkkdcddpjlaaGreatDoorRows.lean that lists a variable, with what it lists TIED to the program's text (the seventh form; the later family's looks); each row that meets fmt, with fmt's text TOLD by the authors' own Lean function (tested against real Go, not proved from fmt's source: count such statements apart). THE CARD IS WHAT COUNTS. Prove the row's statement (the work); the ties are given (YtnggkkdcddpjlaaGreatDoorTie.lean); close each card by the builder's one call (the guide's Derived/Test/ToyasCard.lean, 'card_holds'). Laid BY PROGRAM, IN A SANDBOX (cutbox-door.mjs). By AI agents, Wed Nov 11 2026. No macro, syntax, notation, axiom, sorry.
-/
import Derived.Test.YtnggkkdcddpjlaaGreatDoorRows
import GoSem.ClaimSeven
namespace Go.Proofs.YtnggkkdcddpjlaaGreatDoor
namespace Rows

/-- THE TIED CARD OF 'laws.FnCastPlain'. -/
def fnCastPlainCard : Claim7 := { stood := { row := fnCastPlainRow, standIns := [], harness := (true, "1bcc829bb9fb697c5b39e6e2247fe547c7276f52ecc72226775748fd529e6c7f"), looks := true }, kinds := [], alts := [], laidByText := true, laidKinds := [.data, .data, .widerDeep, .widerDeep, .data, .data, .data, .data, .data, .sentinel, .sentinel, .pinned, .pinned], laidTests := true, laidLooks := .later }
def FnCastPlainCardSaid : Prop := Claim7.holds Tryz.pinned (.plain (OpenSpec.ofChange fnCastPlainSpec)) fnCastPlainCard

/-- THE TIED CARD OF 'laws.FnCastZero'. -/
def fnCastZeroCard : Claim7 := { stood := { row := fnCastZeroRow, standIns := [], harness := (true, "1bcc829bb9fb697c5b39e6e2247fe547c7276f52ecc72226775748fd529e6c7f"), looks := true }, kinds := [], alts := [], laidByText := true, laidKinds := [.data, .data, .widerDeep, .widerDeep, .data, .data, .data, .data, .data, .sentinel, .sentinel, .pinned, .pinned], laidTests := true, laidLooks := .later }
def FnCastZeroCardSaid : Prop := Claim7.holds Tryz.pinned (.plain (OpenSpec.ofChange fnCastZeroSpec)) fnCastZeroCard

/-- THE SECOND FORM's CARD OF 'laws.FnCastPlain'. -/
def fnCastPlainUptoCard : Claim7 := { stood := { row := fnCastPlainUptoRow, standIns := [], harness := (true, "1bcc829bb9fb697c5b39e6e2247fe547c7276f52ecc72226775748fd529e6c7f"), looks := true }, kinds := [], alts := [], laidByText := true, laidKinds := [.data, .data, .widerDeep, .widerDeep, .data, .data, .data, .data, .data, .sentinel, .sentinel, .pinned, .pinned], laidTests := true, laidLooks := .later }
def FnCastPlainUptoCardSaid : Prop := Claim7.holds Tryz.pinned (.plain (OpenSpec.upto fnCastPlainSpec)) fnCastPlainUptoCard

/-- THE SECOND FORM's CARD OF 'laws.FnCastZero'. -/
def fnCastZeroUptoCard : Claim7 := { stood := { row := fnCastZeroUptoRow, standIns := [], harness := (true, "1bcc829bb9fb697c5b39e6e2247fe547c7276f52ecc72226775748fd529e6c7f"), looks := true }, kinds := [], alts := [], laidByText := true, laidKinds := [.data, .data, .widerDeep, .widerDeep, .data, .data, .data, .data, .data, .sentinel, .sentinel, .pinned, .pinned], laidTests := true, laidLooks := .later }
def FnCastZeroUptoCardSaid : Prop := Claim7.holds Tryz.pinned (.plain (OpenSpec.upto fnCastZeroSpec)) fnCastZeroUptoCard
end Rows
end Go.Proofs.YtnggkkdcddpjlaaGreatDoor
