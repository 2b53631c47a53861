/-
  No cell of these rows narrows 'for every input' (looked for: loops, veiled, ifaces, maps, wideKeys, modest, calm, conditions, laid).
  DERIVED. THE GIVEN ROWS OF THIS SEAT. 7 by the template 'for every input the law returns true; each argument reads behind the call as it read before'; 0 by the template 'total and deterministic' (their statements: YtejgndndjbdlaabTotals.lean).
  GIVEN WITH THE SEED: the statements are not yours to turn. If you find one false, say at which input.
  Laid BY PROGRAM, IN A SANDBOX (cutbox-rows.mjs): the forced cells as the released guide's own fill.sh prints them over the translation 8369de65d6fd44fb… (all of the seat's roots in one cut). By AI agents, Wed Nov 11 2026. No macro, syntax, notation, axiom, sorry.
-/
import Derived.Test.YtejgndndjbdlaabChecked
import GoSem.Claim
import GoSem.ClaimJoined
import GoSem.ClaimMapViews
import Derived.JoinedTies
import Derived.KernelRfl
namespace Go.Proofs.Ytejgndndjbdlaab
/- THE CELL 'sum', in the pinned program and in every row, IS THE sha256 OF THE DUMP (.gsa) THAT YtejgndndjbdlaabProg.lean LOADS. Nothing in Lean hashes anything: it is a label: what it is worth is what the hold of that sum in a sandbox is worth. -/
noncomputable def Try.pinned : Pinned := { name := "ytejgndndjbdlaab", sum := "8369de65d6fd44fb2cc1057eb4de0651f75e412a2e82dd952c2e0256f8336f2f", checked := Try.checked }
namespace Rows
def none {H : Type} : Left H := { results := [], args := [] }

/-- 'laws.FnExactFull': WHATEVER THE INPUT: true; the input reads as it did. -/
def fnExactFullSpec : ChangeSpec := { name := "fnExactFull", fn := fun _ => fun
  | [d] => { results := [.lit (.bool true)], args := [d] }
  | _ => none }
def fnExactFullRow : OpenClaim := { program := "ytejgndndjbdlaab", sum := "8369de65d6fd44fb2cc1057eb4de0651f75e412a2e82dd952c2e0256f8336f2f", func := "loop.example/pub-slotgroups/laws.FnExactFull", spec := "fnExactFull", unfollowed := true, recurses := true, apart := false }
def FnExactFullSaid : Prop := fnExactFullRow.holds Try.pinned (OpenSpec.ofChange fnExactFullSpec)

/-- ITS FALSE NEIGHBOUR: 'it returns false'. Refute it at one input. -/
def fnExactFullWrong : ChangeSpec := { name := "fnExactFull", fn := fun _ => fun
  | [d] => { results := [.lit (.bool false)], args := [d] }
  | _ => none }
def FnExactFullWrongFalsely : Prop := fnExactFullRow.holds Try.pinned (OpenSpec.ofChange fnExactFullWrong)

/-- 'laws.FnExactEmpty': WHATEVER THE INPUT: true; the input reads as it did. -/
def fnExactEmptySpec : ChangeSpec := { name := "fnExactEmpty", fn := fun _ => fun
  | [d] => { results := [.lit (.bool true)], args := [d] }
  | _ => none }
def fnExactEmptyRow : OpenClaim := { program := "ytejgndndjbdlaab", sum := "8369de65d6fd44fb2cc1057eb4de0651f75e412a2e82dd952c2e0256f8336f2f", func := "loop.example/pub-slotgroups/laws.FnExactEmpty", spec := "fnExactEmpty", unfollowed := true, recurses := true, apart := false }
def FnExactEmptySaid : Prop := fnExactEmptyRow.holds Try.pinned (OpenSpec.ofChange fnExactEmptySpec)

/-- ITS FALSE NEIGHBOUR: 'it returns false'. Refute it at one input. -/
def fnExactEmptyWrong : ChangeSpec := { name := "fnExactEmpty", fn := fun _ => fun
  | [d] => { results := [.lit (.bool false)], args := [d] }
  | _ => none }
def FnExactEmptyWrongFalsely : Prop := fnExactEmptyRow.holds Try.pinned (OpenSpec.ofChange fnExactEmptyWrong)

/-- 'laws.FnExactFree': WHATEVER THE INPUT: true; the input reads as it did. -/
def fnExactFreeSpec : ChangeSpec := { name := "fnExactFree", fn := fun _ => fun
  | [d] => { results := [.lit (.bool true)], args := [d] }
  | _ => none }
def fnExactFreeRow : OpenClaim := { program := "ytejgndndjbdlaab", sum := "8369de65d6fd44fb2cc1057eb4de0651f75e412a2e82dd952c2e0256f8336f2f", func := "loop.example/pub-slotgroups/laws.FnExactFree", spec := "fnExactFree", unfollowed := true, recurses := true, apart := false }
def FnExactFreeSaid : Prop := fnExactFreeRow.holds Try.pinned (OpenSpec.ofChange fnExactFreeSpec)

/-- ITS FALSE NEIGHBOUR: 'it returns false'. Refute it at one input. -/
def fnExactFreeWrong : ChangeSpec := { name := "fnExactFree", fn := fun _ => fun
  | [d] => { results := [.lit (.bool false)], args := [d] }
  | _ => none }
def FnExactFreeWrongFalsely : Prop := fnExactFreeRow.holds Try.pinned (OpenSpec.ofChange fnExactFreeWrong)

/-- 'laws.FnExactRemoveFirst': WHATEVER THE INPUT: true; the input reads as it did. -/
def fnExactRemoveFirstSpec : ChangeSpec := { name := "fnExactRemoveFirst", fn := fun _ => fun
  | [d] => { results := [.lit (.bool true)], args := [d] }
  | _ => none }
def fnExactRemoveFirstRow : OpenClaim := { program := "ytejgndndjbdlaab", sum := "8369de65d6fd44fb2cc1057eb4de0651f75e412a2e82dd952c2e0256f8336f2f", func := "loop.example/pub-slotgroups/laws.FnExactRemoveFirst", spec := "fnExactRemoveFirst", unfollowed := true, recurses := true, apart := false }
def FnExactRemoveFirstSaid : Prop := fnExactRemoveFirstRow.holds Try.pinned (OpenSpec.ofChange fnExactRemoveFirstSpec)

/-- ITS FALSE NEIGHBOUR: 'it returns false'. Refute it at one input. -/
def fnExactRemoveFirstWrong : ChangeSpec := { name := "fnExactRemoveFirst", fn := fun _ => fun
  | [d] => { results := [.lit (.bool false)], args := [d] }
  | _ => none }
def FnExactRemoveFirstWrongFalsely : Prop := fnExactRemoveFirstRow.holds Try.pinned (OpenSpec.ofChange fnExactRemoveFirstWrong)

/-- 'laws.FnExactRemoveBelow': WHATEVER THE INPUT: true; the input reads as it did. -/
def fnExactRemoveBelowSpec : ChangeSpec := { name := "fnExactRemoveBelow", fn := fun _ => fun
  | [d1, d2] => { results := [.lit (.bool true)], args := [d1, d2] }
  | _ => none }
def fnExactRemoveBelowRow : OpenClaim := { program := "ytejgndndjbdlaab", sum := "8369de65d6fd44fb2cc1057eb4de0651f75e412a2e82dd952c2e0256f8336f2f", func := "loop.example/pub-slotgroups/laws.FnExactRemoveBelow", spec := "fnExactRemoveBelow", unfollowed := true, recurses := true, apart := false }
def FnExactRemoveBelowSaid : Prop := fnExactRemoveBelowRow.holds Try.pinned (OpenSpec.ofChange fnExactRemoveBelowSpec)

/-- ITS FALSE NEIGHBOUR: 'it returns false'. Refute it at one input. -/
def fnExactRemoveBelowWrong : ChangeSpec := { name := "fnExactRemoveBelow", fn := fun _ => fun
  | [d1, d2] => { results := [.lit (.bool false)], args := [d1, d2] }
  | _ => none }
def FnExactRemoveBelowWrongFalsely : Prop := fnExactRemoveBelowRow.holds Try.pinned (OpenSpec.ofChange fnExactRemoveBelowWrong)

/-- 'laws.FnHashAll': WHATEVER THE INPUT: true; the input reads as it did. -/
def fnHashAllSpec : ChangeSpec := { name := "fnHashAll", fn := fun _ => fun
  | [d1, d2] => { results := [.lit (.bool true)], args := [d1, d2] }
  | _ => none }
def fnHashAllRow : OpenClaim := { program := "ytejgndndjbdlaab", sum := "8369de65d6fd44fb2cc1057eb4de0651f75e412a2e82dd952c2e0256f8336f2f", func := "loop.example/pub-slotgroups/laws.FnHashAll", spec := "fnHashAll", unfollowed := true, recurses := true, apart := false }
def FnHashAllSaid : Prop := fnHashAllRow.holds Try.pinned (OpenSpec.ofChange fnHashAllSpec)

/-- ITS FALSE NEIGHBOUR: 'it returns false'. Refute it at one input. -/
def fnHashAllWrong : ChangeSpec := { name := "fnHashAll", fn := fun _ => fun
  | [d1, d2] => { results := [.lit (.bool false)], args := [d1, d2] }
  | _ => none }
def FnHashAllWrongFalsely : Prop := fnHashAllRow.holds Try.pinned (OpenSpec.ofChange fnHashAllWrong)

/-- 'laws.FnExactNew': WHATEVER THE INPUT: true; the input reads as it did. -/
def fnExactNewSpec : ChangeSpec := { name := "fnExactNew", fn := fun _ => fun
  | [d] => { results := [.lit (.bool true)], args := [d] }
  | _ => none }
def fnExactNewRow : OpenClaim := { program := "ytejgndndjbdlaab", sum := "8369de65d6fd44fb2cc1057eb4de0651f75e412a2e82dd952c2e0256f8336f2f", func := "loop.example/pub-slotgroups/laws.FnExactNew", spec := "fnExactNew", unfollowed := true, recurses := true, apart := false }
def FnExactNewSaid : Prop := fnExactNewRow.holds Try.pinned (OpenSpec.ofChange fnExactNewSpec)

/-- ITS FALSE NEIGHBOUR: 'it returns false'. Refute it at one input. -/
def fnExactNewWrong : ChangeSpec := { name := "fnExactNew", fn := fun _ => fun
  | [d] => { results := [.lit (.bool false)], args := [d] }
  | _ => none }
def FnExactNewWrongFalsely : Prop := fnExactNewRow.holds Try.pinned (OpenSpec.ofChange fnExactNewWrong)

/- THE SECOND FORM. 'bulk': how many values and letters a reading holds, each counted each time it is reached (what is shared counts as often as it is met; a slice's spare places count too). A statement '..UptoSaid' is the law's where the arguments, and the package variables that the reading takes, are together of bulk at most 1048576: NARROWER than '..Said'. Prove '..Said' where nothing that the law and all that it calls make is longer than what came in: it says more and counts as full. Else prove '..UptoSaid'. A law counts once. -/
mutual
def uptoBulk {H : Type} : DataW H → Nat
  | .lit (.string bytes) => bytes.length + 1
  | .lit _ => 1
  | .nil => 1
  | .ptr d => uptoBulk d + 1
  | .slice elems spare => uptoBulkAll elems + uptoBulkAll spare + 1
  | .agg parts => uptoBulkAll parts + 1
  | .iface _ d => uptoBulk d + 1
  | .map entries => uptoBulkEntries entries + 1
  | .held _ => 1
def uptoBulkAll {H : Type} : List (DataW H) → Nat
  | [] => 0
  | d :: r => uptoBulk d + uptoBulkAll r
def uptoBulkEntries {H : Type} : List (Lit × DataW H) → Nat
  | [] => 0
  | x :: r => uptoBulkEntry x + uptoBulkEntries r
def uptoBulkEntry {H : Type} : Lit × DataW H → Nat
  | (.string bytes, d) => bytes.length + uptoBulk d + 1
  | (_, d) => uptoBulk d + 1
 end
def uptoSmall : (H : Type) → List (DataW H) → Bool := fun _ ds => decide (uptoBulkAll ds ≤ 1048576)
def OpenSpec.upto (s : _root_.Go.ChangeSpec) : _root_.Go.OpenSpec := { _root_.Go.OpenSpec.ofChange s with cond := some uptoSmall }

/-- 'laws.FnExactFull', WHERE WHAT IT READS IS OF BULK AT MOST 1048576: true; the input reads as it did. -/
def fnExactFullUptoRow : OpenClaim := { program := "ytejgndndjbdlaab", sum := "8369de65d6fd44fb2cc1057eb4de0651f75e412a2e82dd952c2e0256f8336f2f", func := "loop.example/pub-slotgroups/laws.FnExactFull", spec := "fnExactFull", unfollowed := true, recurses := true, apart := false, narrowed := true }
def FnExactFullUptoSaid : Prop := fnExactFullUptoRow.holds Try.pinned (OpenSpec.upto fnExactFullSpec)

/-- 'laws.FnExactEmpty', WHERE WHAT IT READS IS OF BULK AT MOST 1048576: true; the input reads as it did. -/
def fnExactEmptyUptoRow : OpenClaim := { program := "ytejgndndjbdlaab", sum := "8369de65d6fd44fb2cc1057eb4de0651f75e412a2e82dd952c2e0256f8336f2f", func := "loop.example/pub-slotgroups/laws.FnExactEmpty", spec := "fnExactEmpty", unfollowed := true, recurses := true, apart := false, narrowed := true }
def FnExactEmptyUptoSaid : Prop := fnExactEmptyUptoRow.holds Try.pinned (OpenSpec.upto fnExactEmptySpec)

/-- 'laws.FnExactFree', WHERE WHAT IT READS IS OF BULK AT MOST 1048576: true; the input reads as it did. -/
def fnExactFreeUptoRow : OpenClaim := { program := "ytejgndndjbdlaab", sum := "8369de65d6fd44fb2cc1057eb4de0651f75e412a2e82dd952c2e0256f8336f2f", func := "loop.example/pub-slotgroups/laws.FnExactFree", spec := "fnExactFree", unfollowed := true, recurses := true, apart := false, narrowed := true }
def FnExactFreeUptoSaid : Prop := fnExactFreeUptoRow.holds Try.pinned (OpenSpec.upto fnExactFreeSpec)

/-- 'laws.FnExactRemoveFirst', WHERE WHAT IT READS IS OF BULK AT MOST 1048576: true; the input reads as it did. -/
def fnExactRemoveFirstUptoRow : OpenClaim := { program := "ytejgndndjbdlaab", sum := "8369de65d6fd44fb2cc1057eb4de0651f75e412a2e82dd952c2e0256f8336f2f", func := "loop.example/pub-slotgroups/laws.FnExactRemoveFirst", spec := "fnExactRemoveFirst", unfollowed := true, recurses := true, apart := false, narrowed := true }
def FnExactRemoveFirstUptoSaid : Prop := fnExactRemoveFirstUptoRow.holds Try.pinned (OpenSpec.upto fnExactRemoveFirstSpec)

/-- 'laws.FnExactRemoveBelow', WHERE WHAT IT READS IS OF BULK AT MOST 1048576: true; the input reads as it did. -/
def fnExactRemoveBelowUptoRow : OpenClaim := { program := "ytejgndndjbdlaab", sum := "8369de65d6fd44fb2cc1057eb4de0651f75e412a2e82dd952c2e0256f8336f2f", func := "loop.example/pub-slotgroups/laws.FnExactRemoveBelow", spec := "fnExactRemoveBelow", unfollowed := true, recurses := true, apart := false, narrowed := true }
def FnExactRemoveBelowUptoSaid : Prop := fnExactRemoveBelowUptoRow.holds Try.pinned (OpenSpec.upto fnExactRemoveBelowSpec)

/-- 'laws.FnHashAll', WHERE WHAT IT READS IS OF BULK AT MOST 1048576: true; the input reads as it did. -/
def fnHashAllUptoRow : OpenClaim := { program := "ytejgndndjbdlaab", sum := "8369de65d6fd44fb2cc1057eb4de0651f75e412a2e82dd952c2e0256f8336f2f", func := "loop.example/pub-slotgroups/laws.FnHashAll", spec := "fnHashAll", unfollowed := true, recurses := true, apart := false, narrowed := true }
def FnHashAllUptoSaid : Prop := fnHashAllUptoRow.holds Try.pinned (OpenSpec.upto fnHashAllSpec)

/-- 'laws.FnExactNew', WHERE WHAT IT READS IS OF BULK AT MOST 1048576: true; the input reads as it did. -/
def fnExactNewUptoRow : OpenClaim := { program := "ytejgndndjbdlaab", sum := "8369de65d6fd44fb2cc1057eb4de0651f75e412a2e82dd952c2e0256f8336f2f", func := "loop.example/pub-slotgroups/laws.FnExactNew", spec := "fnExactNew", unfollowed := true, recurses := true, apart := false, narrowed := true }
def FnExactNewUptoSaid : Prop := fnExactNewUptoRow.holds Try.pinned (OpenSpec.upto fnExactNewSpec)

end Rows
end Go.Proofs.Ytejgndndjbdlaab
