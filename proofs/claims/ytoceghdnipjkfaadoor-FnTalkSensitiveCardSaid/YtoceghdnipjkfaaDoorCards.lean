/-
  DERIVED. GIVEN WITH THE SEED: THE CARDS: each row of YtoceghdnipjkfaaDoorRows.lean that lists a variable, with what it lists TIED to the program's text (the seventh form; the later family's looks); each row that meets fmt, with fmt's text TOLD by the authors' own Lean function (tested against real Go, not proved from fmt's source: count such statements apart). THE CARD IS WHAT COUNTS. Prove the row's statement (the work); the ties are given (YtoceghdnipjkfaaDoorTie.lean); close each card by the builder's one call (the guide's Derived/Test/ToyasCard.lean, 'card_holds'). Laid BY PROGRAM, IN A SANDBOX (cutbox-door.mjs). By AI agents, Wed Nov 11 2026. No macro, syntax, notation, axiom, sorry.
-/
import Derived.Test.YtoceghdnipjkfaaDoorRows
import GoSem.ClaimSeven
namespace Go.Proofs.YtoceghdnipjkfaaDoor
namespace Rows

/-- THE TIED CARD OF 'laws.FnTalkAgain'. -/
def fnTalkAgainCard : Claim7 := { stood := { row := fnTalkAgainRow, standIns := [], harness := (true, "063f76d2884b13bb44fd37e6e5bf90b666e9544a8f700ddde42fed5a2ecdbca7"), looks := true }, kinds := [], alts := [], laidByText := true, laidKinds := [.sentinel, .sentinel, .sentinel, .sentinel, .sentinel, .data, .data], laidTests := true, laidLooks := .later }
def FnTalkAgainCardSaid : Prop := Claim7.holds Tryd.pinned (.plain (OpenSpec.ofChange fnTalkAgainSpec)) fnTalkAgainCard

/-- THE TIED CARD OF 'laws.FnTalkBound'. -/
def fnTalkBoundCard : Claim7 := { stood := { row := fnTalkBoundRow, standIns := [], harness := (true, "063f76d2884b13bb44fd37e6e5bf90b666e9544a8f700ddde42fed5a2ecdbca7"), looks := true }, kinds := [], alts := [], laidByText := true, laidKinds := [.sentinel, .sentinel, .sentinel, .sentinel, .sentinel, .data, .data], laidTests := true, laidLooks := .later }
def FnTalkBoundCardSaid : Prop := Claim7.holds Tryd.pinned (.plain (OpenSpec.ofChange fnTalkBoundSpec)) fnTalkBoundCard

/-- THE TIED CARD OF 'laws.FnTalkReads'. -/
def fnTalkReadsCard : Claim7 := { stood := { row := fnTalkReadsRow, standIns := [], harness := (true, "063f76d2884b13bb44fd37e6e5bf90b666e9544a8f700ddde42fed5a2ecdbca7"), looks := true }, kinds := [], alts := [], laidByText := true, laidKinds := [.sentinel, .sentinel, .sentinel, .sentinel, .sentinel, .data, .data], laidTests := true, laidLooks := .later }
def FnTalkReadsCardSaid : Prop := Claim7.holds Tryd.pinned (.plain (OpenSpec.ofChange fnTalkReadsSpec)) fnTalkReadsCard

/-- THE TIED CARD OF 'laws.FnTalkSensitive'. -/
def fnTalkSensitiveCard : Claim7 := { stood := { row := fnTalkSensitiveRow, standIns := [], harness := (true, "063f76d2884b13bb44fd37e6e5bf90b666e9544a8f700ddde42fed5a2ecdbca7"), looks := true }, kinds := [], alts := [], laidByText := true, laidKinds := [.sentinel, .sentinel, .sentinel, .sentinel, .sentinel, .data, .data], laidTests := true, laidLooks := .later }
def FnTalkSensitiveCardSaid : Prop := Claim7.holds Tryd.pinned (.plain (OpenSpec.ofChange fnTalkSensitiveSpec)) fnTalkSensitiveCard

/-- THE TIED CARD OF 'laws.FnTalkTables'. -/
def fnTalkTablesCard : Claim7 := { stood := { row := fnTalkTablesRow, standIns := [], harness := (true, "063f76d2884b13bb44fd37e6e5bf90b666e9544a8f700ddde42fed5a2ecdbca7"), looks := true }, kinds := [], alts := [], laidByText := true, laidKinds := [.sentinel, .sentinel, .sentinel, .sentinel, .sentinel, .data, .data], laidTests := true, laidLooks := .later }
def FnTalkTablesCardSaid : Prop := Claim7.holds Tryd.pinned (.plain (OpenSpec.ofChange fnTalkTablesSpec)) fnTalkTablesCard

/-- THE SECOND FORM's CARD OF 'laws.FnTalkAgain'. -/
def fnTalkAgainUptoCard : Claim7 := { stood := { row := fnTalkAgainUptoRow, standIns := [], harness := (true, "063f76d2884b13bb44fd37e6e5bf90b666e9544a8f700ddde42fed5a2ecdbca7"), looks := true }, kinds := [], alts := [], laidByText := true, laidKinds := [.sentinel, .sentinel, .sentinel, .sentinel, .sentinel, .data, .data], laidTests := true, laidLooks := .later }
def FnTalkAgainUptoCardSaid : Prop := Claim7.holds Tryd.pinned (.plain (OpenSpec.upto fnTalkAgainSpec)) fnTalkAgainUptoCard

/-- THE SECOND FORM's CARD OF 'laws.FnTalkBound'. -/
def fnTalkBoundUptoCard : Claim7 := { stood := { row := fnTalkBoundUptoRow, standIns := [], harness := (true, "063f76d2884b13bb44fd37e6e5bf90b666e9544a8f700ddde42fed5a2ecdbca7"), looks := true }, kinds := [], alts := [], laidByText := true, laidKinds := [.sentinel, .sentinel, .sentinel, .sentinel, .sentinel, .data, .data], laidTests := true, laidLooks := .later }
def FnTalkBoundUptoCardSaid : Prop := Claim7.holds Tryd.pinned (.plain (OpenSpec.upto fnTalkBoundSpec)) fnTalkBoundUptoCard

/-- THE SECOND FORM's CARD OF 'laws.FnTalkReads'. -/
def fnTalkReadsUptoCard : Claim7 := { stood := { row := fnTalkReadsUptoRow, standIns := [], harness := (true, "063f76d2884b13bb44fd37e6e5bf90b666e9544a8f700ddde42fed5a2ecdbca7"), looks := true }, kinds := [], alts := [], laidByText := true, laidKinds := [.sentinel, .sentinel, .sentinel, .sentinel, .sentinel, .data, .data], laidTests := true, laidLooks := .later }
def FnTalkReadsUptoCardSaid : Prop := Claim7.holds Tryd.pinned (.plain (OpenSpec.upto fnTalkReadsSpec)) fnTalkReadsUptoCard

/-- THE SECOND FORM's CARD OF 'laws.FnTalkSensitive'. -/
def fnTalkSensitiveUptoCard : Claim7 := { stood := { row := fnTalkSensitiveUptoRow, standIns := [], harness := (true, "063f76d2884b13bb44fd37e6e5bf90b666e9544a8f700ddde42fed5a2ecdbca7"), looks := true }, kinds := [], alts := [], laidByText := true, laidKinds := [.sentinel, .sentinel, .sentinel, .sentinel, .sentinel, .data, .data], laidTests := true, laidLooks := .later }
def FnTalkSensitiveUptoCardSaid : Prop := Claim7.holds Tryd.pinned (.plain (OpenSpec.upto fnTalkSensitiveSpec)) fnTalkSensitiveUptoCard

/-- THE SECOND FORM's CARD OF 'laws.FnTalkTables'. -/
def fnTalkTablesUptoCard : Claim7 := { stood := { row := fnTalkTablesUptoRow, standIns := [], harness := (true, "063f76d2884b13bb44fd37e6e5bf90b666e9544a8f700ddde42fed5a2ecdbca7"), looks := true }, kinds := [], alts := [], laidByText := true, laidKinds := [.sentinel, .sentinel, .sentinel, .sentinel, .sentinel, .data, .data], laidTests := true, laidLooks := .later }
def FnTalkTablesUptoCardSaid : Prop := Claim7.holds Tryd.pinned (.plain (OpenSpec.upto fnTalkTablesSpec)) fnTalkTablesUptoCard
end Rows
end Go.Proofs.YtoceghdnipjkfaaDoor
