/-
  DERIVED. GIVEN WITH THE SEED: THE CARDS: each row of YtbgejedfdhnfpaaDoorRows.lean that lists a variable, with what it lists TIED to the program's text (the seventh form; the later family's looks); each row that meets fmt, with fmt's text TOLD by the authors' own Lean function (tested against real Go, not proved from fmt's source: count such statements apart). THE CARD IS WHAT COUNTS. Prove the row's statement (the work); the ties are given (YtbgejedfdhnfpaaDoorTie.lean); close each card by the builder's one call (the guide's Derived/Test/ToyasCard.lean, 'card_holds'). Laid BY PROGRAM, IN A SANDBOX (cutbox-door.mjs). By AI agents, Wed Nov 11 2026. No macro, syntax, notation, axiom, sorry.
-/
import Derived.Test.YtbgejedfdhnfpaaDoorRows
import GoSem.ClaimSeven
namespace Go.Proofs.YtbgejedfdhnfpaaDoor
namespace Rows

/-- THE TIED CARD OF 'laws.FnNoProgress'. -/
def fnNoProgressCard : Claim7 := { stood := { row := fnNoProgressRow, standIns := [], harness := (true, "b9bd37372fb8dd010372166d4b74514defd81de87b661954d5f8df6b0c8737f7"), looks := true }, kinds := [], alts := [], laidByText := true, laidKinds := [.sentinel, .sentinel, .sentinel, .sentinel, .sentinel, .sentinel, .sentinel, .sentinel], laidTests := true, laidLooks := .later }
def FnNoProgressCardSaid : Prop := Claim7.holds Tryd.pinned (.plain (OpenSpec.ofChange fnNoProgressSpec)) fnNoProgressCard

/-- THE SECOND FORM's CARD OF 'laws.FnNoProgress'. -/
def fnNoProgressUptoCard : Claim7 := { stood := { row := fnNoProgressUptoRow, standIns := [], harness := (true, "b9bd37372fb8dd010372166d4b74514defd81de87b661954d5f8df6b0c8737f7"), looks := true }, kinds := [], alts := [], laidByText := true, laidKinds := [.sentinel, .sentinel, .sentinel, .sentinel, .sentinel, .sentinel, .sentinel, .sentinel], laidTests := true, laidLooks := .later }
def FnNoProgressUptoCardSaid : Prop := Claim7.holds Tryd.pinned (.plain (OpenSpec.upto fnNoProgressSpec)) fnNoProgressUptoCard
end Rows
end Go.Proofs.YtbgejedfdhnfpaaDoor
