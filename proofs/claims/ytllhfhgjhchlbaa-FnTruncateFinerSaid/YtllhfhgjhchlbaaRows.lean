/-
  No cell of these rows narrows 'for every input' (looked for: loops, veiled, ifaces, maps, wideKeys, modest, calm, conditions, laid).
  DERIVED. THE GIVEN ROWS OF THIS SEAT. 11 by the template 'for every input the law returns true; each argument reads behind the call as it read before'; 0 by the template 'total and deterministic' (their statements: YtllhfhgjhchlbaaTotals.lean).
  GIVEN WITH THE SEED: the statements are not yours to turn. If you find one false, say at which input.
  Laid BY PROGRAM, IN A SANDBOX (cutbox-rows.mjs): the forced cells as the released guide's own fill.sh prints them over the translation 5cef51d80760b6d1… (all of the seat's roots in one cut). By AI agents, Wed Nov 11 2026. No macro, syntax, notation, axiom, sorry.
-/
import Derived.Test.YtllhfhgjhchlbaaChecked
import GoSem.Claim
import GoSem.ClaimJoined
import GoSem.ClaimMapViews
import Derived.JoinedTies
import Derived.KernelRfl
namespace Go.Proofs.Ytllhfhgjhchlbaa
/- THE CELL 'sum', in the pinned program and in every row, IS THE sha256 OF THE DUMP (.gsa) THAT YtllhfhgjhchlbaaProg.lean LOADS. Nothing in Lean hashes anything: it is a label: what it is worth is what the hold of that sum in a sandbox is worth. -/
noncomputable def Try.pinned : Pinned := { name := "ytllhfhgjhchlbaa", sum := "5cef51d80760b6d1ccc81f63e41ccac57c18d6c6ca6e9fc9888dfad188a206e8", checked := Try.checked }
namespace Rows
def none {H : Type} : Left H := { results := [], args := [] }

/-- 'laws.FnExactTruncateOf': WHATEVER THE INPUT: true; the input reads as it did. -/
def fnExactTruncateOfSpec : ChangeSpec := { name := "fnExactTruncateOf", fn := fun _ => fun
  | [d1, d2, d3] => { results := [.lit (.bool true)], args := [d1, d2, d3] }
  | _ => none }
def fnExactTruncateOfRow : OpenClaim := { program := "ytllhfhgjhchlbaa", sum := "5cef51d80760b6d1ccc81f63e41ccac57c18d6c6ca6e9fc9888dfad188a206e8", func := "loop.example/lib-g01419/laws.FnExactTruncateOf", spec := "fnExactTruncateOf", apart := false }
def FnExactTruncateOfSaid : Prop := fnExactTruncateOfRow.holds Try.pinned (OpenSpec.ofChange fnExactTruncateOfSpec)

/-- ITS FALSE NEIGHBOUR: 'it returns false'. Refute it at one input. -/
def fnExactTruncateOfWrong : ChangeSpec := { name := "fnExactTruncateOf", fn := fun _ => fun
  | [d1, d2, d3] => { results := [.lit (.bool false)], args := [d1, d2, d3] }
  | _ => none }
def FnExactTruncateOfWrongFalsely : Prop := fnExactTruncateOfRow.holds Try.pinned (OpenSpec.ofChange fnExactTruncateOfWrong)

/-- 'laws.FnOrderOfThree': WHATEVER THE INPUT: true; the input reads as it did. -/
def fnOrderOfThreeSpec : ChangeSpec := { name := "fnOrderOfThree", fn := fun _ => fun
  | [d1, d2, d3, d4] => { results := [.lit (.bool true)], args := [d1, d2, d3, d4] }
  | _ => none }
def fnOrderOfThreeRow : OpenClaim := { program := "ytllhfhgjhchlbaa", sum := "5cef51d80760b6d1ccc81f63e41ccac57c18d6c6ca6e9fc9888dfad188a206e8", func := "loop.example/lib-g01419/laws.FnOrderOfThree", spec := "fnOrderOfThree", apart := false }
def FnOrderOfThreeSaid : Prop := fnOrderOfThreeRow.holds Try.pinned (OpenSpec.ofChange fnOrderOfThreeSpec)

/-- ITS FALSE NEIGHBOUR: 'it returns false'. Refute it at one input. -/
def fnOrderOfThreeWrong : ChangeSpec := { name := "fnOrderOfThree", fn := fun _ => fun
  | [d1, d2, d3, d4] => { results := [.lit (.bool false)], args := [d1, d2, d3, d4] }
  | _ => none }
def FnOrderOfThreeWrongFalsely : Prop := fnOrderOfThreeRow.holds Try.pinned (OpenSpec.ofChange fnOrderOfThreeWrong)

/-- 'laws.FnTruncateDown': WHATEVER THE INPUT: true; the input reads as it did. -/
def fnTruncateDownSpec : ChangeSpec := { name := "fnTruncateDown", fn := fun _ => fun
  | [d1, d2, d3] => { results := [.lit (.bool true)], args := [d1, d2, d3] }
  | _ => none }
def fnTruncateDownRow : OpenClaim := { program := "ytllhfhgjhchlbaa", sum := "5cef51d80760b6d1ccc81f63e41ccac57c18d6c6ca6e9fc9888dfad188a206e8", func := "loop.example/lib-g01419/laws.FnTruncateDown", spec := "fnTruncateDown", apart := false }
def FnTruncateDownSaid : Prop := fnTruncateDownRow.holds Try.pinned (OpenSpec.ofChange fnTruncateDownSpec)

/-- ITS FALSE NEIGHBOUR: 'it returns false'. Refute it at one input. -/
def fnTruncateDownWrong : ChangeSpec := { name := "fnTruncateDown", fn := fun _ => fun
  | [d1, d2, d3] => { results := [.lit (.bool false)], args := [d1, d2, d3] }
  | _ => none }
def FnTruncateDownWrongFalsely : Prop := fnTruncateDownRow.holds Try.pinned (OpenSpec.ofChange fnTruncateDownWrong)

/-- 'laws.FnTruncateFiner': WHATEVER THE INPUT: true; the input reads as it did. -/
def fnTruncateFinerSpec : ChangeSpec := { name := "fnTruncateFiner", fn := fun _ => fun
  | [d1, d2, d3, d4] => { results := [.lit (.bool true)], args := [d1, d2, d3, d4] }
  | _ => none }
def fnTruncateFinerRow : OpenClaim := { program := "ytllhfhgjhchlbaa", sum := "5cef51d80760b6d1ccc81f63e41ccac57c18d6c6ca6e9fc9888dfad188a206e8", func := "loop.example/lib-g01419/laws.FnTruncateFiner", spec := "fnTruncateFiner", apart := false }
def FnTruncateFinerSaid : Prop := fnTruncateFinerRow.holds Try.pinned (OpenSpec.ofChange fnTruncateFinerSpec)

/-- ITS FALSE NEIGHBOUR: 'it returns false'. Refute it at one input. -/
def fnTruncateFinerWrong : ChangeSpec := { name := "fnTruncateFiner", fn := fun _ => fun
  | [d1, d2, d3, d4] => { results := [.lit (.bool false)], args := [d1, d2, d3, d4] }
  | _ => none }
def FnTruncateFinerWrongFalsely : Prop := fnTruncateFinerRow.holds Try.pinned (OpenSpec.ofChange fnTruncateFinerWrong)

/-- 'laws.FnTruncateOne': WHATEVER THE INPUT: true; the input reads as it did. -/
def fnTruncateOneSpec : ChangeSpec := { name := "fnTruncateOne", fn := fun _ => fun
  | [d1, d2] => { results := [.lit (.bool true)], args := [d1, d2] }
  | _ => none }
def fnTruncateOneRow : OpenClaim := { program := "ytllhfhgjhchlbaa", sum := "5cef51d80760b6d1ccc81f63e41ccac57c18d6c6ca6e9fc9888dfad188a206e8", func := "loop.example/lib-g01419/laws.FnTruncateOne", spec := "fnTruncateOne", apart := false }
def FnTruncateOneSaid : Prop := fnTruncateOneRow.holds Try.pinned (OpenSpec.ofChange fnTruncateOneSpec)

/-- ITS FALSE NEIGHBOUR: 'it returns false'. Refute it at one input. -/
def fnTruncateOneWrong : ChangeSpec := { name := "fnTruncateOne", fn := fun _ => fun
  | [d1, d2] => { results := [.lit (.bool false)], args := [d1, d2] }
  | _ => none }
def FnTruncateOneWrongFalsely : Prop := fnTruncateOneRow.holds Try.pinned (OpenSpec.ofChange fnTruncateOneWrong)

/-- 'laws.FnSameParts': WHATEVER THE INPUT: true; the input reads as it did. -/
def fnSamePartsSpec : ChangeSpec := { name := "fnSameParts", fn := fun _ => fun
  | [d1, d2, d3, d4] => { results := [.lit (.bool true)], args := [d1, d2, d3, d4] }
  | _ => none }
def fnSamePartsRow : OpenClaim := { program := "ytllhfhgjhchlbaa", sum := "5cef51d80760b6d1ccc81f63e41ccac57c18d6c6ca6e9fc9888dfad188a206e8", func := "loop.example/lib-g01419/laws.FnSameParts", spec := "fnSameParts", apart := false }
def FnSamePartsSaid : Prop := fnSamePartsRow.holds Try.pinned (OpenSpec.ofChange fnSamePartsSpec)

/-- ITS FALSE NEIGHBOUR: 'it returns false'. Refute it at one input. -/
def fnSamePartsWrong : ChangeSpec := { name := "fnSameParts", fn := fun _ => fun
  | [d1, d2, d3, d4] => { results := [.lit (.bool false)], args := [d1, d2, d3, d4] }
  | _ => none }
def FnSamePartsWrongFalsely : Prop := fnSamePartsRow.holds Try.pinned (OpenSpec.ofChange fnSamePartsWrong)

/-- 'laws.FnLater': WHATEVER THE INPUT: true; the input reads as it did. -/
def fnLaterSpec : ChangeSpec := { name := "fnLater", fn := fun _ => fun
  | [d1, d2] => { results := [.lit (.bool true)], args := [d1, d2] }
  | _ => none }
def fnLaterRow : OpenClaim := { program := "ytllhfhgjhchlbaa", sum := "5cef51d80760b6d1ccc81f63e41ccac57c18d6c6ca6e9fc9888dfad188a206e8", func := "loop.example/lib-g01419/laws.FnLater", spec := "fnLater", apart := false }
def FnLaterSaid : Prop := fnLaterRow.holds Try.pinned (OpenSpec.ofChange fnLaterSpec)

/-- ITS FALSE NEIGHBOUR: 'it returns false'. Refute it at one input. -/
def fnLaterWrong : ChangeSpec := { name := "fnLater", fn := fun _ => fun
  | [d1, d2] => { results := [.lit (.bool false)], args := [d1, d2] }
  | _ => none }
def FnLaterWrongFalsely : Prop := fnLaterRow.holds Try.pinned (OpenSpec.ofChange fnLaterWrong)

/-- 'laws.FnExactRoundOf': WHATEVER THE INPUT: true; the input reads as it did. -/
def fnExactRoundOfSpec : ChangeSpec := { name := "fnExactRoundOf", fn := fun _ => fun
  | [d1, d2, d3] => { results := [.lit (.bool true)], args := [d1, d2, d3] }
  | _ => none }
def fnExactRoundOfRow : OpenClaim := { program := "ytllhfhgjhchlbaa", sum := "5cef51d80760b6d1ccc81f63e41ccac57c18d6c6ca6e9fc9888dfad188a206e8", func := "loop.example/lib-g01419/laws.FnExactRoundOf", spec := "fnExactRoundOf", apart := false }
def FnExactRoundOfSaid : Prop := fnExactRoundOfRow.holds Try.pinned (OpenSpec.ofChange fnExactRoundOfSpec)

/-- ITS FALSE NEIGHBOUR: 'it returns false'. Refute it at one input. -/
def fnExactRoundOfWrong : ChangeSpec := { name := "fnExactRoundOf", fn := fun _ => fun
  | [d1, d2, d3] => { results := [.lit (.bool false)], args := [d1, d2, d3] }
  | _ => none }
def FnExactRoundOfWrongFalsely : Prop := fnExactRoundOfRow.holds Try.pinned (OpenSpec.ofChange fnExactRoundOfWrong)

/-- 'laws.FnRoundNear': WHATEVER THE INPUT: true; the input reads as it did. -/
def fnRoundNearSpec : ChangeSpec := { name := "fnRoundNear", fn := fun _ => fun
  | [d1, d2, d3] => { results := [.lit (.bool true)], args := [d1, d2, d3] }
  | _ => none }
def fnRoundNearRow : OpenClaim := { program := "ytllhfhgjhchlbaa", sum := "5cef51d80760b6d1ccc81f63e41ccac57c18d6c6ca6e9fc9888dfad188a206e8", func := "loop.example/lib-g01419/laws.FnRoundNear", spec := "fnRoundNear", apart := false }
def FnRoundNearSaid : Prop := fnRoundNearRow.holds Try.pinned (OpenSpec.ofChange fnRoundNearSpec)

/-- ITS FALSE NEIGHBOUR: 'it returns false'. Refute it at one input. -/
def fnRoundNearWrong : ChangeSpec := { name := "fnRoundNear", fn := fun _ => fun
  | [d1, d2, d3] => { results := [.lit (.bool false)], args := [d1, d2, d3] }
  | _ => none }
def FnRoundNearWrongFalsely : Prop := fnRoundNearRow.holds Try.pinned (OpenSpec.ofChange fnRoundNearWrong)

/-- 'laws.FnRoundOne': WHATEVER THE INPUT: true; the input reads as it did. -/
def fnRoundOneSpec : ChangeSpec := { name := "fnRoundOne", fn := fun _ => fun
  | [d1, d2] => { results := [.lit (.bool true)], args := [d1, d2] }
  | _ => none }
def fnRoundOneRow : OpenClaim := { program := "ytllhfhgjhchlbaa", sum := "5cef51d80760b6d1ccc81f63e41ccac57c18d6c6ca6e9fc9888dfad188a206e8", func := "loop.example/lib-g01419/laws.FnRoundOne", spec := "fnRoundOne", apart := false }
def FnRoundOneSaid : Prop := fnRoundOneRow.holds Try.pinned (OpenSpec.ofChange fnRoundOneSpec)

/-- ITS FALSE NEIGHBOUR: 'it returns false'. Refute it at one input. -/
def fnRoundOneWrong : ChangeSpec := { name := "fnRoundOne", fn := fun _ => fun
  | [d1, d2] => { results := [.lit (.bool false)], args := [d1, d2] }
  | _ => none }
def FnRoundOneWrongFalsely : Prop := fnRoundOneRow.holds Try.pinned (OpenSpec.ofChange fnRoundOneWrong)

/-- 'laws.FnMonotone': WHATEVER THE INPUT: true; the input reads as it did. -/
def fnMonotoneSpec : ChangeSpec := { name := "fnMonotone", fn := fun _ => fun
  | [d1, d2, d3, d4, d5] => { results := [.lit (.bool true)], args := [d1, d2, d3, d4, d5] }
  | _ => none }
def fnMonotoneRow : OpenClaim := { program := "ytllhfhgjhchlbaa", sum := "5cef51d80760b6d1ccc81f63e41ccac57c18d6c6ca6e9fc9888dfad188a206e8", func := "loop.example/lib-g01419/laws.FnMonotone", spec := "fnMonotone", apart := false }
def FnMonotoneSaid : Prop := fnMonotoneRow.holds Try.pinned (OpenSpec.ofChange fnMonotoneSpec)

/-- ITS FALSE NEIGHBOUR: 'it returns false'. Refute it at one input. -/
def fnMonotoneWrong : ChangeSpec := { name := "fnMonotone", fn := fun _ => fun
  | [d1, d2, d3, d4, d5] => { results := [.lit (.bool false)], args := [d1, d2, d3, d4, d5] }
  | _ => none }
def FnMonotoneWrongFalsely : Prop := fnMonotoneRow.holds Try.pinned (OpenSpec.ofChange fnMonotoneWrong)

/- THE SECOND FORM. 'bulk': how many values and letters a reading holds, each counted each time it is reached (what is shared counts as often as it is met; a slice's spare places count too). A statement '..UptoSaid' is the law's where the arguments, and the package variables that the reading takes, are together of bulk at most 1048576: NARROWER than '..Said'. Prove '..Said' where nothing that the law and all that it calls make is longer than what came in: it says more and counts as full. Else prove '..UptoSaid'. A law counts once. -/
mutual
def uptoBulk {H : Type} : DataW H → Nat
  | .lit (.string bytes) => bytes.length + 1
  | .lit _ => 1
  | .nil => 1
  | .ptr d => uptoBulk d + 1
  | .slice elems spare => uptoBulkAll elems + uptoBulkAll spare + 1
  | .agg parts => uptoBulkAll parts + 1
  | .iface _ d => uptoBulk d + 1
  | .map entries => uptoBulkEntries entries + 1
  | .held _ => 1
def uptoBulkAll {H : Type} : List (DataW H) → Nat
  | [] => 0
  | d :: r => uptoBulk d + uptoBulkAll r
def uptoBulkEntries {H : Type} : List (Lit × DataW H) → Nat
  | [] => 0
  | x :: r => uptoBulkEntry x + uptoBulkEntries r
def uptoBulkEntry {H : Type} : Lit × DataW H → Nat
  | (.string bytes, d) => bytes.length + uptoBulk d + 1
  | (_, d) => uptoBulk d + 1
 end
def uptoSmall : (H : Type) → List (DataW H) → Bool := fun _ ds => decide (uptoBulkAll ds ≤ 1048576)
def OpenSpec.upto (s : _root_.Go.ChangeSpec) : _root_.Go.OpenSpec := { _root_.Go.OpenSpec.ofChange s with cond := some uptoSmall }

/-- 'laws.FnExactTruncateOf', WHERE WHAT IT READS IS OF BULK AT MOST 1048576: true; the input reads as it did. -/
def fnExactTruncateOfUptoRow : OpenClaim := { program := "ytllhfhgjhchlbaa", sum := "5cef51d80760b6d1ccc81f63e41ccac57c18d6c6ca6e9fc9888dfad188a206e8", func := "loop.example/lib-g01419/laws.FnExactTruncateOf", spec := "fnExactTruncateOf", apart := false, narrowed := true }
def FnExactTruncateOfUptoSaid : Prop := fnExactTruncateOfUptoRow.holds Try.pinned (OpenSpec.upto fnExactTruncateOfSpec)

/-- 'laws.FnOrderOfThree', WHERE WHAT IT READS IS OF BULK AT MOST 1048576: true; the input reads as it did. -/
def fnOrderOfThreeUptoRow : OpenClaim := { program := "ytllhfhgjhchlbaa", sum := "5cef51d80760b6d1ccc81f63e41ccac57c18d6c6ca6e9fc9888dfad188a206e8", func := "loop.example/lib-g01419/laws.FnOrderOfThree", spec := "fnOrderOfThree", apart := false, narrowed := true }
def FnOrderOfThreeUptoSaid : Prop := fnOrderOfThreeUptoRow.holds Try.pinned (OpenSpec.upto fnOrderOfThreeSpec)

/-- 'laws.FnTruncateDown', WHERE WHAT IT READS IS OF BULK AT MOST 1048576: true; the input reads as it did. -/
def fnTruncateDownUptoRow : OpenClaim := { program := "ytllhfhgjhchlbaa", sum := "5cef51d80760b6d1ccc81f63e41ccac57c18d6c6ca6e9fc9888dfad188a206e8", func := "loop.example/lib-g01419/laws.FnTruncateDown", spec := "fnTruncateDown", apart := false, narrowed := true }
def FnTruncateDownUptoSaid : Prop := fnTruncateDownUptoRow.holds Try.pinned (OpenSpec.upto fnTruncateDownSpec)

/-- 'laws.FnTruncateFiner', WHERE WHAT IT READS IS OF BULK AT MOST 1048576: true; the input reads as it did. -/
def fnTruncateFinerUptoRow : OpenClaim := { program := "ytllhfhgjhchlbaa", sum := "5cef51d80760b6d1ccc81f63e41ccac57c18d6c6ca6e9fc9888dfad188a206e8", func := "loop.example/lib-g01419/laws.FnTruncateFiner", spec := "fnTruncateFiner", apart := false, narrowed := true }
def FnTruncateFinerUptoSaid : Prop := fnTruncateFinerUptoRow.holds Try.pinned (OpenSpec.upto fnTruncateFinerSpec)

/-- 'laws.FnTruncateOne', WHERE WHAT IT READS IS OF BULK AT MOST 1048576: true; the input reads as it did. -/
def fnTruncateOneUptoRow : OpenClaim := { program := "ytllhfhgjhchlbaa", sum := "5cef51d80760b6d1ccc81f63e41ccac57c18d6c6ca6e9fc9888dfad188a206e8", func := "loop.example/lib-g01419/laws.FnTruncateOne", spec := "fnTruncateOne", apart := false, narrowed := true }
def FnTruncateOneUptoSaid : Prop := fnTruncateOneUptoRow.holds Try.pinned (OpenSpec.upto fnTruncateOneSpec)

/-- 'laws.FnSameParts', WHERE WHAT IT READS IS OF BULK AT MOST 1048576: true; the input reads as it did. -/
def fnSamePartsUptoRow : OpenClaim := { program := "ytllhfhgjhchlbaa", sum := "5cef51d80760b6d1ccc81f63e41ccac57c18d6c6ca6e9fc9888dfad188a206e8", func := "loop.example/lib-g01419/laws.FnSameParts", spec := "fnSameParts", apart := false, narrowed := true }
def FnSamePartsUptoSaid : Prop := fnSamePartsUptoRow.holds Try.pinned (OpenSpec.upto fnSamePartsSpec)

/-- 'laws.FnLater', WHERE WHAT IT READS IS OF BULK AT MOST 1048576: true; the input reads as it did. -/
def fnLaterUptoRow : OpenClaim := { program := "ytllhfhgjhchlbaa", sum := "5cef51d80760b6d1ccc81f63e41ccac57c18d6c6ca6e9fc9888dfad188a206e8", func := "loop.example/lib-g01419/laws.FnLater", spec := "fnLater", apart := false, narrowed := true }
def FnLaterUptoSaid : Prop := fnLaterUptoRow.holds Try.pinned (OpenSpec.upto fnLaterSpec)

/-- 'laws.FnExactRoundOf', WHERE WHAT IT READS IS OF BULK AT MOST 1048576: true; the input reads as it did. -/
def fnExactRoundOfUptoRow : OpenClaim := { program := "ytllhfhgjhchlbaa", sum := "5cef51d80760b6d1ccc81f63e41ccac57c18d6c6ca6e9fc9888dfad188a206e8", func := "loop.example/lib-g01419/laws.FnExactRoundOf", spec := "fnExactRoundOf", apart := false, narrowed := true }
def FnExactRoundOfUptoSaid : Prop := fnExactRoundOfUptoRow.holds Try.pinned (OpenSpec.upto fnExactRoundOfSpec)

/-- 'laws.FnRoundNear', WHERE WHAT IT READS IS OF BULK AT MOST 1048576: true; the input reads as it did. -/
def fnRoundNearUptoRow : OpenClaim := { program := "ytllhfhgjhchlbaa", sum := "5cef51d80760b6d1ccc81f63e41ccac57c18d6c6ca6e9fc9888dfad188a206e8", func := "loop.example/lib-g01419/laws.FnRoundNear", spec := "fnRoundNear", apart := false, narrowed := true }
def FnRoundNearUptoSaid : Prop := fnRoundNearUptoRow.holds Try.pinned (OpenSpec.upto fnRoundNearSpec)

/-- 'laws.FnRoundOne', WHERE WHAT IT READS IS OF BULK AT MOST 1048576: true; the input reads as it did. -/
def fnRoundOneUptoRow : OpenClaim := { program := "ytllhfhgjhchlbaa", sum := "5cef51d80760b6d1ccc81f63e41ccac57c18d6c6ca6e9fc9888dfad188a206e8", func := "loop.example/lib-g01419/laws.FnRoundOne", spec := "fnRoundOne", apart := false, narrowed := true }
def FnRoundOneUptoSaid : Prop := fnRoundOneUptoRow.holds Try.pinned (OpenSpec.upto fnRoundOneSpec)

/-- 'laws.FnMonotone', WHERE WHAT IT READS IS OF BULK AT MOST 1048576: true; the input reads as it did. -/
def fnMonotoneUptoRow : OpenClaim := { program := "ytllhfhgjhchlbaa", sum := "5cef51d80760b6d1ccc81f63e41ccac57c18d6c6ca6e9fc9888dfad188a206e8", func := "loop.example/lib-g01419/laws.FnMonotone", spec := "fnMonotone", apart := false, narrowed := true }
def FnMonotoneUptoSaid : Prop := fnMonotoneUptoRow.holds Try.pinned (OpenSpec.upto fnMonotoneSpec)

end Rows
end Go.Proofs.Ytllhfhgjhchlbaa
