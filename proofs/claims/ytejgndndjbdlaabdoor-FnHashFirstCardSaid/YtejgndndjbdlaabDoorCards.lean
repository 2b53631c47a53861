/-
  DERIVED. GIVEN WITH THE SEED: THE CARDS: each row of YtejgndndjbdlaabDoorRows.lean that lists a variable, with what it lists TIED to the program's text (the seventh form; the later family's looks); each row that meets fmt, with fmt's text TOLD by the authors' own Lean function (tested against real Go, not proved from fmt's source: count such statements apart). THE CARD IS WHAT COUNTS. Prove the row's statement (the work); the ties are given (YtejgndndjbdlaabDoorTie.lean); close each card by the builder's one call (the guide's Derived/Test/ToyasCard.lean, 'card_holds'). Laid BY PROGRAM, IN A SANDBOX (cutbox-door.mjs). By AI agents, Wed Nov 11 2026. No macro, syntax, notation, axiom, sorry.
-/
import Derived.Test.YtejgndndjbdlaabDoorRows
import GoSem.ClaimSeven
namespace Go.Proofs.YtejgndndjbdlaabDoor
namespace Rows

/-- THE TIED CARD OF 'laws.FnHashFirst'. -/
def fnHashFirstCard : Claim7 := { stood := { row := fnHashFirstRow, standIns := [], harness := (true, "65c371fe8fa113c3a1e152fae7ec3d4e6c3bca34316b96a6ca6ab9a6c9efbf48"), looks := false }, kinds := [], alts := [], laidByText := true, laidKinds := [.data], laidTests := true, laidLooks := .later }
def FnHashFirstCardSaid : Prop := Claim7.holds Tryd.pinned (.plain (OpenSpec.ofChange fnHashFirstSpec)) fnHashFirstCard

/-- THE TIED CARD OF 'laws.FnExactFirst'. -/
def fnExactFirstCard : Claim7 := { stood := { row := fnExactFirstRow, standIns := [], harness := (true, "65c371fe8fa113c3a1e152fae7ec3d4e6c3bca34316b96a6ca6ab9a6c9efbf48"), looks := false }, kinds := [], alts := [], laidByText := true, laidKinds := [.data], laidTests := true, laidLooks := .later }
def FnExactFirstCardSaid : Prop := Claim7.holds Tryd.pinned (.plain (OpenSpec.ofChange fnExactFirstSpec)) fnExactFirstCard

/-- THE SECOND FORM's CARD OF 'laws.FnHashFirst'. -/
def fnHashFirstUptoCard : Claim7 := { stood := { row := fnHashFirstUptoRow, standIns := [], harness := (true, "65c371fe8fa113c3a1e152fae7ec3d4e6c3bca34316b96a6ca6ab9a6c9efbf48"), looks := false }, kinds := [], alts := [], laidByText := true, laidKinds := [.data], laidTests := true, laidLooks := .later }
def FnHashFirstUptoCardSaid : Prop := Claim7.holds Tryd.pinned (.plain (OpenSpec.upto fnHashFirstSpec)) fnHashFirstUptoCard

/-- THE SECOND FORM's CARD OF 'laws.FnExactFirst'. -/
def fnExactFirstUptoCard : Claim7 := { stood := { row := fnExactFirstUptoRow, standIns := [], harness := (true, "65c371fe8fa113c3a1e152fae7ec3d4e6c3bca34316b96a6ca6ab9a6c9efbf48"), looks := false }, kinds := [], alts := [], laidByText := true, laidKinds := [.data], laidTests := true, laidLooks := .later }
def FnExactFirstUptoCardSaid : Prop := Claim7.holds Tryd.pinned (.plain (OpenSpec.upto fnExactFirstSpec)) fnExactFirstUptoCard
end Rows
end Go.Proofs.YtejgndndjbdlaabDoor
