/-
  No cell of these rows narrows 'for every input' (looked for: loops, veiled, ifaces, maps, wideKeys, modest, calm, conditions, laid).
  DERIVED. THE GIVEN ROWS OF THIS SEAT. 10 by the template 'for every input the law returns true; each argument reads behind the call as it read before'; 0 by the template 'total and deterministic' (their statements: YtejgndndjbdlaaaTotals.lean).
  GIVEN WITH THE SEED: the statements are not yours to turn. If you find one false, say at which input.
  Laid BY PROGRAM, IN A SANDBOX (cutbox-rows.mjs): the forced cells as the released guide's own fill.sh prints them over the translation 658b920010a4eb95… (all of the seat's roots in one cut). By AI agents, Wed Nov 11 2026. No macro, syntax, notation, axiom, sorry.
-/
import Derived.Test.YtejgndndjbdlaaaChecked
import GoSem.Claim
import GoSem.ClaimJoined
import GoSem.ClaimMapViews
import Derived.JoinedTies
import Derived.KernelRfl
namespace Go.Proofs.Ytejgndndjbdlaaa
/- THE CELL 'sum', in the pinned program and in every row, IS THE sha256 OF THE DUMP (.gsa) THAT YtejgndndjbdlaaaProg.lean LOADS. Nothing in Lean hashes anything: it is a label: what it is worth is what the hold of that sum in a sandbox is worth. -/
noncomputable def Try.pinned : Pinned := { name := "ytejgndndjbdlaaa", sum := "658b920010a4eb956635ba73f67090d4cbee13cbcff00953c562bd72201e41b7", checked := Try.checked }
namespace Rows
def none {H : Type} : Left H := { results := [], args := [] }

/-- 'laws.FnExactUp': WHATEVER THE INPUT: true; the input reads as it did. -/
def fnExactUpSpec : ChangeSpec := { name := "fnExactUp", fn := fun _ => fun
  | [d1, d2] => { results := [.lit (.bool true)], args := [d1, d2] }
  | _ => none }
def fnExactUpRow : OpenClaim := { program := "ytejgndndjbdlaaa", sum := "658b920010a4eb956635ba73f67090d4cbee13cbcff00953c562bd72201e41b7", func := "loop.example/pub-slotgroups/laws.FnExactUp", spec := "fnExactUp", apart := false }
def FnExactUpSaid : Prop := fnExactUpRow.holds Try.pinned (OpenSpec.ofChange fnExactUpSpec)

/-- ITS FALSE NEIGHBOUR: 'it returns false'. Refute it at one input. -/
def fnExactUpWrong : ChangeSpec := { name := "fnExactUp", fn := fun _ => fun
  | [d1, d2] => { results := [.lit (.bool false)], args := [d1, d2] }
  | _ => none }
def FnExactUpWrongFalsely : Prop := fnExactUpRow.holds Try.pinned (OpenSpec.ofChange fnExactUpWrong)

/-- 'laws.FnExactAny': WHATEVER THE INPUT: true; the input reads as it did. -/
def fnExactAnySpec : ChangeSpec := { name := "fnExactAny", fn := fun _ => fun
  | [d] => { results := [.lit (.bool true)], args := [d] }
  | _ => none }
def fnExactAnyRow : OpenClaim := { program := "ytejgndndjbdlaaa", sum := "658b920010a4eb956635ba73f67090d4cbee13cbcff00953c562bd72201e41b7", func := "loop.example/pub-slotgroups/laws.FnExactAny", spec := "fnExactAny", unfollowed := true, recurses := true, apart := false }
def FnExactAnySaid : Prop := fnExactAnyRow.holds Try.pinned (OpenSpec.ofChange fnExactAnySpec)

/-- ITS FALSE NEIGHBOUR: 'it returns false'. Refute it at one input. -/
def fnExactAnyWrong : ChangeSpec := { name := "fnExactAny", fn := fun _ => fun
  | [d] => { results := [.lit (.bool false)], args := [d] }
  | _ => none }
def FnExactAnyWrongFalsely : Prop := fnExactAnyRow.holds Try.pinned (OpenSpec.ofChange fnExactAnyWrong)

/-- 'laws.FnExactCount': WHATEVER THE INPUT: true; the input reads as it did. -/
def fnExactCountSpec : ChangeSpec := { name := "fnExactCount", fn := fun _ => fun
  | [d] => { results := [.lit (.bool true)], args := [d] }
  | _ => none }
def fnExactCountRow : OpenClaim := { program := "ytejgndndjbdlaaa", sum := "658b920010a4eb956635ba73f67090d4cbee13cbcff00953c562bd72201e41b7", func := "loop.example/pub-slotgroups/laws.FnExactCount", spec := "fnExactCount", unfollowed := true, recurses := true, apart := false }
def FnExactCountSaid : Prop := fnExactCountRow.holds Try.pinned (OpenSpec.ofChange fnExactCountSpec)

/-- ITS FALSE NEIGHBOUR: 'it returns false'. Refute it at one input. -/
def fnExactCountWrong : ChangeSpec := { name := "fnExactCount", fn := fun _ => fun
  | [d] => { results := [.lit (.bool false)], args := [d] }
  | _ => none }
def FnExactCountWrongFalsely : Prop := fnExactCountRow.holds Try.pinned (OpenSpec.ofChange fnExactCountWrong)

/-- 'laws.FnExactGet': WHATEVER THE INPUT: true; the input reads as it did. -/
def fnExactGetSpec : ChangeSpec := { name := "fnExactGet", fn := fun _ => fun
  | [d1, d2] => { results := [.lit (.bool true)], args := [d1, d2] }
  | _ => none }
def fnExactGetRow : OpenClaim := { program := "ytejgndndjbdlaaa", sum := "658b920010a4eb956635ba73f67090d4cbee13cbcff00953c562bd72201e41b7", func := "loop.example/pub-slotgroups/laws.FnExactGet", spec := "fnExactGet", apart := false }
def FnExactGetSaid : Prop := fnExactGetRow.holds Try.pinned (OpenSpec.ofChange fnExactGetSpec)

/-- ITS FALSE NEIGHBOUR: 'it returns false'. Refute it at one input. -/
def fnExactGetWrong : ChangeSpec := { name := "fnExactGet", fn := fun _ => fun
  | [d1, d2] => { results := [.lit (.bool false)], args := [d1, d2] }
  | _ => none }
def FnExactGetWrongFalsely : Prop := fnExactGetRow.holds Try.pinned (OpenSpec.ofChange fnExactGetWrong)

/-- 'laws.FnExactSet': WHATEVER THE INPUT: true; the input reads as it did. -/
def fnExactSetSpec : ChangeSpec := { name := "fnExactSet", fn := fun _ => fun
  | [d1, d2, d3] => { results := [.lit (.bool true)], args := [d1, d2, d3] }
  | _ => none }
def fnExactSetRow : OpenClaim := { program := "ytejgndndjbdlaaa", sum := "658b920010a4eb956635ba73f67090d4cbee13cbcff00953c562bd72201e41b7", func := "loop.example/pub-slotgroups/laws.FnExactSet", spec := "fnExactSet", apart := false }
def FnExactSetSaid : Prop := fnExactSetRow.holds Try.pinned (OpenSpec.ofChange fnExactSetSpec)

/-- ITS FALSE NEIGHBOUR: 'it returns false'. Refute it at one input. -/
def fnExactSetWrong : ChangeSpec := { name := "fnExactSet", fn := fun _ => fun
  | [d1, d2, d3] => { results := [.lit (.bool false)], args := [d1, d2, d3] }
  | _ => none }
def FnExactSetWrongFalsely : Prop := fnExactSetRow.holds Try.pinned (OpenSpec.ofChange fnExactSetWrong)

/-- 'laws.FnGetSet': WHATEVER THE INPUT: true; the input reads as it did. -/
def fnGetSetSpec : ChangeSpec := { name := "fnGetSet", fn := fun _ => fun
  | [d1, d2, d3, d4] => { results := [.lit (.bool true)], args := [d1, d2, d3, d4] }
  | _ => none }
def fnGetSetRow : OpenClaim := { program := "ytejgndndjbdlaaa", sum := "658b920010a4eb956635ba73f67090d4cbee13cbcff00953c562bd72201e41b7", func := "loop.example/pub-slotgroups/laws.FnGetSet", spec := "fnGetSet", apart := false }
def FnGetSetSaid : Prop := fnGetSetRow.holds Try.pinned (OpenSpec.ofChange fnGetSetSpec)

/-- ITS FALSE NEIGHBOUR: 'it returns false'. Refute it at one input. -/
def fnGetSetWrong : ChangeSpec := { name := "fnGetSet", fn := fun _ => fun
  | [d1, d2, d3, d4] => { results := [.lit (.bool false)], args := [d1, d2, d3, d4] }
  | _ => none }
def FnGetSetWrongFalsely : Prop := fnGetSetRow.holds Try.pinned (OpenSpec.ofChange fnGetSetWrong)

/-- 'laws.FnProbeAll': WHATEVER THE INPUT: true; the input reads as it did. -/
def fnProbeAllSpec : ChangeSpec := { name := "fnProbeAll", fn := fun _ => fun
  | [d1, d2] => { results := [.lit (.bool true)], args := [d1, d2] }
  | _ => none }
def fnProbeAllRow : OpenClaim := { program := "ytejgndndjbdlaaa", sum := "658b920010a4eb956635ba73f67090d4cbee13cbcff00953c562bd72201e41b7", func := "loop.example/pub-slotgroups/laws.FnProbeAll", spec := "fnProbeAll", apart := false }
def FnProbeAllSaid : Prop := fnProbeAllRow.holds Try.pinned (OpenSpec.ofChange fnProbeAllSpec)

/-- ITS FALSE NEIGHBOUR: 'it returns false'. Refute it at one input. -/
def fnProbeAllWrong : ChangeSpec := { name := "fnProbeAll", fn := fun _ => fun
  | [d1, d2] => { results := [.lit (.bool false)], args := [d1, d2] }
  | _ => none }
def FnProbeAllWrongFalsely : Prop := fnProbeAllRow.holds Try.pinned (OpenSpec.ofChange fnProbeAllWrong)

/-- 'laws.FnExactPower': WHATEVER THE INPUT: true; the input reads as it did. -/
def fnExactPowerSpec : ChangeSpec := { name := "fnExactPower", fn := fun _ => fun
  | [d] => { results := [.lit (.bool true)], args := [d] }
  | _ => none }
def fnExactPowerRow : OpenClaim := { program := "ytejgndndjbdlaaa", sum := "658b920010a4eb956635ba73f67090d4cbee13cbcff00953c562bd72201e41b7", func := "loop.example/pub-slotgroups/laws.FnExactPower", spec := "fnExactPower", apart := false }
def FnExactPowerSaid : Prop := fnExactPowerRow.holds Try.pinned (OpenSpec.ofChange fnExactPowerSpec)

/-- ITS FALSE NEIGHBOUR: 'it returns false'. Refute it at one input. -/
def fnExactPowerWrong : ChangeSpec := { name := "fnExactPower", fn := fun _ => fun
  | [d] => { results := [.lit (.bool false)], args := [d] }
  | _ => none }
def FnExactPowerWrongFalsely : Prop := fnExactPowerRow.holds Try.pinned (OpenSpec.ofChange fnExactPowerWrong)

/-- 'laws.FnExactProbe': WHATEVER THE INPUT: true; the input reads as it did. -/
def fnExactProbeSpec : ChangeSpec := { name := "fnExactProbe", fn := fun _ => fun
  | [d1, d2, d3] => { results := [.lit (.bool true)], args := [d1, d2, d3] }
  | _ => none }
def fnExactProbeRow : OpenClaim := { program := "ytejgndndjbdlaaa", sum := "658b920010a4eb956635ba73f67090d4cbee13cbcff00953c562bd72201e41b7", func := "loop.example/pub-slotgroups/laws.FnExactProbe", spec := "fnExactProbe", apart := false }
def FnExactProbeSaid : Prop := fnExactProbeRow.holds Try.pinned (OpenSpec.ofChange fnExactProbeSpec)

/-- ITS FALSE NEIGHBOUR: 'it returns false'. Refute it at one input. -/
def fnExactProbeWrong : ChangeSpec := { name := "fnExactProbe", fn := fun _ => fun
  | [d1, d2, d3] => { results := [.lit (.bool false)], args := [d1, d2, d3] }
  | _ => none }
def FnExactProbeWrongFalsely : Prop := fnExactProbeRow.holds Try.pinned (OpenSpec.ofChange fnExactProbeWrong)

/-- 'laws.FnProbeAgain': WHATEVER THE INPUT: true; the input reads as it did. -/
def fnProbeAgainSpec : ChangeSpec := { name := "fnProbeAgain", fn := fun _ => fun
  | [d1, d2, d3] => { results := [.lit (.bool true)], args := [d1, d2, d3] }
  | _ => none }
def fnProbeAgainRow : OpenClaim := { program := "ytejgndndjbdlaaa", sum := "658b920010a4eb956635ba73f67090d4cbee13cbcff00953c562bd72201e41b7", func := "loop.example/pub-slotgroups/laws.FnProbeAgain", spec := "fnProbeAgain", apart := false }
def FnProbeAgainSaid : Prop := fnProbeAgainRow.holds Try.pinned (OpenSpec.ofChange fnProbeAgainSpec)

/-- ITS FALSE NEIGHBOUR: 'it returns false'. Refute it at one input. -/
def fnProbeAgainWrong : ChangeSpec := { name := "fnProbeAgain", fn := fun _ => fun
  | [d1, d2, d3] => { results := [.lit (.bool false)], args := [d1, d2, d3] }
  | _ => none }
def FnProbeAgainWrongFalsely : Prop := fnProbeAgainRow.holds Try.pinned (OpenSpec.ofChange fnProbeAgainWrong)

/- THE SECOND FORM. 'bulk': how many values and letters a reading holds, each counted each time it is reached (what is shared counts as often as it is met; a slice's spare places count too). A statement '..UptoSaid' is the law's where the arguments, and the package variables that the reading takes, are together of bulk at most 1048576: NARROWER than '..Said'. Prove '..Said' where nothing that the law and all that it calls make is longer than what came in: it says more and counts as full. Else prove '..UptoSaid'. A law counts once. -/
mutual
def uptoBulk {H : Type} : DataW H → Nat
  | .lit (.string bytes) => bytes.length + 1
  | .lit _ => 1
  | .nil => 1
  | .ptr d => uptoBulk d + 1
  | .slice elems spare => uptoBulkAll elems + uptoBulkAll spare + 1
  | .agg parts => uptoBulkAll parts + 1
  | .iface _ d => uptoBulk d + 1
  | .map entries => uptoBulkEntries entries + 1
  | .held _ => 1
def uptoBulkAll {H : Type} : List (DataW H) → Nat
  | [] => 0
  | d :: r => uptoBulk d + uptoBulkAll r
def uptoBulkEntries {H : Type} : List (Lit × DataW H) → Nat
  | [] => 0
  | x :: r => uptoBulkEntry x + uptoBulkEntries r
def uptoBulkEntry {H : Type} : Lit × DataW H → Nat
  | (.string bytes, d) => bytes.length + uptoBulk d + 1
  | (_, d) => uptoBulk d + 1
 end
def uptoSmall : (H : Type) → List (DataW H) → Bool := fun _ ds => decide (uptoBulkAll ds ≤ 1048576)
def OpenSpec.upto (s : _root_.Go.ChangeSpec) : _root_.Go.OpenSpec := { _root_.Go.OpenSpec.ofChange s with cond := some uptoSmall }

/-- 'laws.FnExactUp', WHERE WHAT IT READS IS OF BULK AT MOST 1048576: true; the input reads as it did. -/
def fnExactUpUptoRow : OpenClaim := { program := "ytejgndndjbdlaaa", sum := "658b920010a4eb956635ba73f67090d4cbee13cbcff00953c562bd72201e41b7", func := "loop.example/pub-slotgroups/laws.FnExactUp", spec := "fnExactUp", apart := false, narrowed := true }
def FnExactUpUptoSaid : Prop := fnExactUpUptoRow.holds Try.pinned (OpenSpec.upto fnExactUpSpec)

/-- 'laws.FnExactAny', WHERE WHAT IT READS IS OF BULK AT MOST 1048576: true; the input reads as it did. -/
def fnExactAnyUptoRow : OpenClaim := { program := "ytejgndndjbdlaaa", sum := "658b920010a4eb956635ba73f67090d4cbee13cbcff00953c562bd72201e41b7", func := "loop.example/pub-slotgroups/laws.FnExactAny", spec := "fnExactAny", unfollowed := true, recurses := true, apart := false, narrowed := true }
def FnExactAnyUptoSaid : Prop := fnExactAnyUptoRow.holds Try.pinned (OpenSpec.upto fnExactAnySpec)

/-- 'laws.FnExactCount', WHERE WHAT IT READS IS OF BULK AT MOST 1048576: true; the input reads as it did. -/
def fnExactCountUptoRow : OpenClaim := { program := "ytejgndndjbdlaaa", sum := "658b920010a4eb956635ba73f67090d4cbee13cbcff00953c562bd72201e41b7", func := "loop.example/pub-slotgroups/laws.FnExactCount", spec := "fnExactCount", unfollowed := true, recurses := true, apart := false, narrowed := true }
def FnExactCountUptoSaid : Prop := fnExactCountUptoRow.holds Try.pinned (OpenSpec.upto fnExactCountSpec)

/-- 'laws.FnExactGet', WHERE WHAT IT READS IS OF BULK AT MOST 1048576: true; the input reads as it did. -/
def fnExactGetUptoRow : OpenClaim := { program := "ytejgndndjbdlaaa", sum := "658b920010a4eb956635ba73f67090d4cbee13cbcff00953c562bd72201e41b7", func := "loop.example/pub-slotgroups/laws.FnExactGet", spec := "fnExactGet", apart := false, narrowed := true }
def FnExactGetUptoSaid : Prop := fnExactGetUptoRow.holds Try.pinned (OpenSpec.upto fnExactGetSpec)

/-- 'laws.FnExactSet', WHERE WHAT IT READS IS OF BULK AT MOST 1048576: true; the input reads as it did. -/
def fnExactSetUptoRow : OpenClaim := { program := "ytejgndndjbdlaaa", sum := "658b920010a4eb956635ba73f67090d4cbee13cbcff00953c562bd72201e41b7", func := "loop.example/pub-slotgroups/laws.FnExactSet", spec := "fnExactSet", apart := false, narrowed := true }
def FnExactSetUptoSaid : Prop := fnExactSetUptoRow.holds Try.pinned (OpenSpec.upto fnExactSetSpec)

/-- 'laws.FnGetSet', WHERE WHAT IT READS IS OF BULK AT MOST 1048576: true; the input reads as it did. -/
def fnGetSetUptoRow : OpenClaim := { program := "ytejgndndjbdlaaa", sum := "658b920010a4eb956635ba73f67090d4cbee13cbcff00953c562bd72201e41b7", func := "loop.example/pub-slotgroups/laws.FnGetSet", spec := "fnGetSet", apart := false, narrowed := true }
def FnGetSetUptoSaid : Prop := fnGetSetUptoRow.holds Try.pinned (OpenSpec.upto fnGetSetSpec)

/-- 'laws.FnProbeAll', WHERE WHAT IT READS IS OF BULK AT MOST 1048576: true; the input reads as it did. -/
def fnProbeAllUptoRow : OpenClaim := { program := "ytejgndndjbdlaaa", sum := "658b920010a4eb956635ba73f67090d4cbee13cbcff00953c562bd72201e41b7", func := "loop.example/pub-slotgroups/laws.FnProbeAll", spec := "fnProbeAll", apart := false, narrowed := true }
def FnProbeAllUptoSaid : Prop := fnProbeAllUptoRow.holds Try.pinned (OpenSpec.upto fnProbeAllSpec)

/-- 'laws.FnExactPower', WHERE WHAT IT READS IS OF BULK AT MOST 1048576: true; the input reads as it did. -/
def fnExactPowerUptoRow : OpenClaim := { program := "ytejgndndjbdlaaa", sum := "658b920010a4eb956635ba73f67090d4cbee13cbcff00953c562bd72201e41b7", func := "loop.example/pub-slotgroups/laws.FnExactPower", spec := "fnExactPower", apart := false, narrowed := true }
def FnExactPowerUptoSaid : Prop := fnExactPowerUptoRow.holds Try.pinned (OpenSpec.upto fnExactPowerSpec)

/-- 'laws.FnExactProbe', WHERE WHAT IT READS IS OF BULK AT MOST 1048576: true; the input reads as it did. -/
def fnExactProbeUptoRow : OpenClaim := { program := "ytejgndndjbdlaaa", sum := "658b920010a4eb956635ba73f67090d4cbee13cbcff00953c562bd72201e41b7", func := "loop.example/pub-slotgroups/laws.FnExactProbe", spec := "fnExactProbe", apart := false, narrowed := true }
def FnExactProbeUptoSaid : Prop := fnExactProbeUptoRow.holds Try.pinned (OpenSpec.upto fnExactProbeSpec)

/-- 'laws.FnProbeAgain', WHERE WHAT IT READS IS OF BULK AT MOST 1048576: true; the input reads as it did. -/
def fnProbeAgainUptoRow : OpenClaim := { program := "ytejgndndjbdlaaa", sum := "658b920010a4eb956635ba73f67090d4cbee13cbcff00953c562bd72201e41b7", func := "loop.example/pub-slotgroups/laws.FnProbeAgain", spec := "fnProbeAgain", apart := false, narrowed := true }
def FnProbeAgainUptoSaid : Prop := fnProbeAgainUptoRow.holds Try.pinned (OpenSpec.upto fnProbeAgainSpec)

end Rows
end Go.Proofs.Ytejgndndjbdlaaa
