/-
  DERIVED. GIVEN WITH THE SEED: THE CARDS: each row of Qxb6000142aDoorRows.lean that lists a variable, with what it lists TIED to the program's text (the seventh form; the later family's looks); each row that meets fmt, with fmt's text TOLD by the authors' own Lean function (tested against real Go, not proved from fmt's source: count such statements apart). THE CARD IS WHAT COUNTS. Prove the row's statement (the work); the ties are given (Qxb6000142aDoorTie.lean); close each card by the builder's one call (the guide's Derived/Test/ToyasCard.lean, 'card_holds'). Laid BY PROGRAM, IN A SANDBOX (cutbox-door.mjs). By AI agents, Wed Nov 11 2026. No macro, syntax, notation, axiom, sorry.
-/
import Derived.Test.Qxb6000142aDoorRows
import GoSem.ClaimSeven
namespace Go.Proofs.Qxb6000142aDoor
namespace Rows

/-- THE TIED CARD OF 'zzlaws_internal_load_b1.FnAppendPaddedReadsBack'. -/
def fnAppendPaddedReadsBackCard : Claim7 := { stood := { row := fnAppendPaddedReadsBackRow, standIns := [], harness := (true, "012b8a529c72b683723c68415c654f88003593dd0ebb6554210c236001db58da"), looks := false }, kinds := [], alts := [], laidByText := true, laidKinds := [.data, .data, .data], laidTests := true, laidLooks := .later }
def FnAppendPaddedReadsBackCardSaid : Prop := Claim7.holds Tryd.pinned (.plain (OpenSpec.ofChange fnAppendPaddedReadsBackSpec)) fnAppendPaddedReadsBackCard

/-- THE TIED CARD OF 'zzlaws_internal_load_b1.FnQueriesAppendPeriodic'. -/
def fnQueriesAppendPeriodicCard : Claim7 := { stood := { row := fnQueriesAppendPeriodicRow, standIns := [], harness := (true, "012b8a529c72b683723c68415c654f88003593dd0ebb6554210c236001db58da"), looks := false }, kinds := [], alts := [], laidByText := true, laidKinds := [.data, .data, .data], laidTests := true, laidLooks := .later }
def FnQueriesAppendPeriodicCardSaid : Prop := Claim7.holds Tryd.pinned (.plain (OpenSpec.ofChange fnQueriesAppendPeriodicSpec)) fnQueriesAppendPeriodicCard
end Rows
end Go.Proofs.Qxb6000142aDoor
