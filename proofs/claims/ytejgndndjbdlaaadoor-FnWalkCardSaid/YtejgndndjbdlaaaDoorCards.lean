/-
  DERIVED. GIVEN WITH THE SEED: THE CARDS: each row of YtejgndndjbdlaaaDoorRows.lean that lists a variable, with what it lists TIED to the program's text (the seventh form; the later family's looks); each row that meets fmt, with fmt's text TOLD by the authors' own Lean function (tested against real Go, not proved from fmt's source: count such statements apart). THE CARD IS WHAT COUNTS. Prove the row's statement (the work); the ties are given (YtejgndndjbdlaaaDoorTie.lean); close each card by the builder's one call (the guide's Derived/Test/ToyasCard.lean, 'card_holds'). Laid BY PROGRAM, IN A SANDBOX (cutbox-door.mjs). By AI agents, Wed Nov 11 2026. No macro, syntax, notation, axiom, sorry.
-/
import Derived.Test.YtejgndndjbdlaaaDoorRows
import GoSem.ClaimSeven
namespace Go.Proofs.YtejgndndjbdlaaaDoor
namespace Rows

/-- THE TIED CARD OF 'laws.FnShift'. -/
def fnShiftCard : Claim7 := { stood := { row := fnShiftRow, standIns := [], harness := (true, "7e1fbf70aa1755a2f29d780c1028210a286e29f4345d61ef3733b2a4ebd9c503"), looks := false }, kinds := [], alts := [], laidByText := true, laidKinds := [.data], laidTests := true, laidLooks := .later }
def FnShiftCardSaid : Prop := Claim7.holds Tryd.pinned (.plain (OpenSpec.ofChange fnShiftSpec)) fnShiftCard

/-- THE TIED CARD OF 'laws.FnWalk'. -/
def fnWalkCard : Claim7 := { stood := { row := fnWalkRow, standIns := [], harness := (true, "7e1fbf70aa1755a2f29d780c1028210a286e29f4345d61ef3733b2a4ebd9c503"), looks := false }, kinds := [], alts := [], laidByText := true, laidKinds := [.data], laidTests := true, laidLooks := .later }
def FnWalkCardSaid : Prop := Claim7.holds Tryd.pinned (.plain (OpenSpec.ofChange fnWalkSpec)) fnWalkCard

/-- THE SECOND FORM's CARD OF 'laws.FnShift'. -/
def fnShiftUptoCard : Claim7 := { stood := { row := fnShiftUptoRow, standIns := [], harness := (true, "7e1fbf70aa1755a2f29d780c1028210a286e29f4345d61ef3733b2a4ebd9c503"), looks := false }, kinds := [], alts := [], laidByText := true, laidKinds := [.data], laidTests := true, laidLooks := .later }
def FnShiftUptoCardSaid : Prop := Claim7.holds Tryd.pinned (.plain (OpenSpec.upto fnShiftSpec)) fnShiftUptoCard

/-- THE SECOND FORM's CARD OF 'laws.FnWalk'. -/
def fnWalkUptoCard : Claim7 := { stood := { row := fnWalkUptoRow, standIns := [], harness := (true, "7e1fbf70aa1755a2f29d780c1028210a286e29f4345d61ef3733b2a4ebd9c503"), looks := false }, kinds := [], alts := [], laidByText := true, laidKinds := [.data], laidTests := true, laidLooks := .later }
def FnWalkUptoCardSaid : Prop := Claim7.holds Tryd.pinned (.plain (OpenSpec.upto fnWalkSpec)) fnWalkUptoCard
end Rows
end Go.Proofs.YtejgndndjbdlaaaDoor
