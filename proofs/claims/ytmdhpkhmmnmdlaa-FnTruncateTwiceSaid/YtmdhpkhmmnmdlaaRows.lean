/-
  No cell of these rows narrows 'for every input' (looked for: loops, veiled, ifaces, maps, wideKeys, modest, calm, conditions, laid).
  DERIVED. THE GIVEN ROWS OF THIS SEAT. 8 by the template 'for every input the law returns true; each argument reads behind the call as it read before'; 0 by the template 'total and deterministic' (their statements: YtmdhpkhmmnmdlaaTotals.lean).
  GIVEN WITH THE SEED: the statements are not yours to turn. If you find one false, say at which input.
  Laid BY PROGRAM, IN A SANDBOX (cutbox-rows.mjs): the forced cells as the released guide's own fill.sh prints them over the translation 8582bd3b88f3ac39… (all of the seat's roots in one cut). By AI agents, Wed Nov 11 2026. No macro, syntax, notation, axiom, sorry.
-/
import Derived.Test.YtmdhpkhmmnmdlaaChecked
import GoSem.Claim
import GoSem.ClaimJoined
import GoSem.ClaimMapViews
import Derived.JoinedTies
import Derived.KernelRfl
namespace Go.Proofs.Ytmdhpkhmmnmdlaa
/- THE CELL 'sum', in the pinned program and in every row, IS THE sha256 OF THE DUMP (.gsa) THAT YtmdhpkhmmnmdlaaProg.lean LOADS. Nothing in Lean hashes anything: it is a label: what it is worth is what the hold of that sum in a sandbox is worth. -/
noncomputable def Try.pinned : Pinned := { name := "ytmdhpkhmmnmdlaa", sum := "8582bd3b88f3ac39f3214023c5221b56cfe34c36bb1a2698fe3a7ee4a5419127", checked := Try.checked }
namespace Rows
def none {H : Type} : Left H := { results := [], args := [] }

/-- 'laws.FnRoundHalf': WHATEVER THE INPUT: true; the input reads as it did. -/
def fnRoundHalfSpec : ChangeSpec := { name := "fnRoundHalf", fn := fun _ => fun
  | [d1, d2] => { results := [.lit (.bool true)], args := [d1, d2] }
  | _ => none }
def fnRoundHalfRow : OpenClaim := { program := "ytmdhpkhmmnmdlaa", sum := "8582bd3b88f3ac39f3214023c5221b56cfe34c36bb1a2698fe3a7ee4a5419127", func := "loop.example/lib-g01419/laws.FnRoundHalf", spec := "fnRoundHalf", apart := false }
def FnRoundHalfSaid : Prop := fnRoundHalfRow.holds Try.pinned (OpenSpec.ofChange fnRoundHalfSpec)

/-- ITS FALSE NEIGHBOUR: 'it returns false'. Refute it at one input. -/
def fnRoundHalfWrong : ChangeSpec := { name := "fnRoundHalf", fn := fun _ => fun
  | [d1, d2] => { results := [.lit (.bool false)], args := [d1, d2] }
  | _ => none }
def FnRoundHalfWrongFalsely : Prop := fnRoundHalfRow.holds Try.pinned (OpenSpec.ofChange fnRoundHalfWrong)

/-- 'laws.FnRoundOrTruncate': WHATEVER THE INPUT: true; the input reads as it did. -/
def fnRoundOrTruncateSpec : ChangeSpec := { name := "fnRoundOrTruncate", fn := fun _ => fun
  | [d1, d2, d3] => { results := [.lit (.bool true)], args := [d1, d2, d3] }
  | _ => none }
def fnRoundOrTruncateRow : OpenClaim := { program := "ytmdhpkhmmnmdlaa", sum := "8582bd3b88f3ac39f3214023c5221b56cfe34c36bb1a2698fe3a7ee4a5419127", func := "loop.example/lib-g01419/laws.FnRoundOrTruncate", spec := "fnRoundOrTruncate", apart := false }
def FnRoundOrTruncateSaid : Prop := fnRoundOrTruncateRow.holds Try.pinned (OpenSpec.ofChange fnRoundOrTruncateSpec)

/-- ITS FALSE NEIGHBOUR: 'it returns false'. Refute it at one input. -/
def fnRoundOrTruncateWrong : ChangeSpec := { name := "fnRoundOrTruncate", fn := fun _ => fun
  | [d1, d2, d3] => { results := [.lit (.bool false)], args := [d1, d2, d3] }
  | _ => none }
def FnRoundOrTruncateWrongFalsely : Prop := fnRoundOrTruncateRow.holds Try.pinned (OpenSpec.ofChange fnRoundOrTruncateWrong)

/-- 'laws.FnRoundTwice': WHATEVER THE INPUT: true; the input reads as it did. -/
def fnRoundTwiceSpec : ChangeSpec := { name := "fnRoundTwice", fn := fun _ => fun
  | [d1, d2, d3] => { results := [.lit (.bool true)], args := [d1, d2, d3] }
  | _ => none }
def fnRoundTwiceRow : OpenClaim := { program := "ytmdhpkhmmnmdlaa", sum := "8582bd3b88f3ac39f3214023c5221b56cfe34c36bb1a2698fe3a7ee4a5419127", func := "loop.example/lib-g01419/laws.FnRoundTwice", spec := "fnRoundTwice", apart := false }
def FnRoundTwiceSaid : Prop := fnRoundTwiceRow.holds Try.pinned (OpenSpec.ofChange fnRoundTwiceSpec)

/-- ITS FALSE NEIGHBOUR: 'it returns false'. Refute it at one input. -/
def fnRoundTwiceWrong : ChangeSpec := { name := "fnRoundTwice", fn := fun _ => fun
  | [d1, d2, d3] => { results := [.lit (.bool false)], args := [d1, d2, d3] }
  | _ => none }
def FnRoundTwiceWrongFalsely : Prop := fnRoundTwiceRow.holds Try.pinned (OpenSpec.ofChange fnRoundTwiceWrong)

/-- 'laws.FnTruncateShift': WHATEVER THE INPUT: true; the input reads as it did. -/
def fnTruncateShiftSpec : ChangeSpec := { name := "fnTruncateShift", fn := fun _ => fun
  | [d1, d2, d3] => { results := [.lit (.bool true)], args := [d1, d2, d3] }
  | _ => none }
def fnTruncateShiftRow : OpenClaim := { program := "ytmdhpkhmmnmdlaa", sum := "8582bd3b88f3ac39f3214023c5221b56cfe34c36bb1a2698fe3a7ee4a5419127", func := "loop.example/lib-g01419/laws.FnTruncateShift", spec := "fnTruncateShift", apart := false }
def FnTruncateShiftSaid : Prop := fnTruncateShiftRow.holds Try.pinned (OpenSpec.ofChange fnTruncateShiftSpec)

/-- ITS FALSE NEIGHBOUR: 'it returns false'. Refute it at one input. -/
def fnTruncateShiftWrong : ChangeSpec := { name := "fnTruncateShift", fn := fun _ => fun
  | [d1, d2, d3] => { results := [.lit (.bool false)], args := [d1, d2, d3] }
  | _ => none }
def FnTruncateShiftWrongFalsely : Prop := fnTruncateShiftRow.holds Try.pinned (OpenSpec.ofChange fnTruncateShiftWrong)

/-- 'laws.FnTruncateTwice': WHATEVER THE INPUT: true; the input reads as it did. -/
def fnTruncateTwiceSpec : ChangeSpec := { name := "fnTruncateTwice", fn := fun _ => fun
  | [d1, d2, d3] => { results := [.lit (.bool true)], args := [d1, d2, d3] }
  | _ => none }
def fnTruncateTwiceRow : OpenClaim := { program := "ytmdhpkhmmnmdlaa", sum := "8582bd3b88f3ac39f3214023c5221b56cfe34c36bb1a2698fe3a7ee4a5419127", func := "loop.example/lib-g01419/laws.FnTruncateTwice", spec := "fnTruncateTwice", apart := false }
def FnTruncateTwiceSaid : Prop := fnTruncateTwiceRow.holds Try.pinned (OpenSpec.ofChange fnTruncateTwiceSpec)

/-- ITS FALSE NEIGHBOUR: 'it returns false'. Refute it at one input. -/
def fnTruncateTwiceWrong : ChangeSpec := { name := "fnTruncateTwice", fn := fun _ => fun
  | [d1, d2, d3] => { results := [.lit (.bool false)], args := [d1, d2, d3] }
  | _ => none }
def FnTruncateTwiceWrongFalsely : Prop := fnTruncateTwiceRow.holds Try.pinned (OpenSpec.ofChange fnTruncateTwiceWrong)

/-- 'laws.FnUnrounded': WHATEVER THE INPUT: true; the input reads as it did. -/
def fnUnroundedSpec : ChangeSpec := { name := "fnUnrounded", fn := fun _ => fun
  | [d1, d2, d3] => { results := [.lit (.bool true)], args := [d1, d2, d3] }
  | _ => none }
def fnUnroundedRow : OpenClaim := { program := "ytmdhpkhmmnmdlaa", sum := "8582bd3b88f3ac39f3214023c5221b56cfe34c36bb1a2698fe3a7ee4a5419127", func := "loop.example/lib-g01419/laws.FnUnrounded", spec := "fnUnrounded", apart := false }
def FnUnroundedSaid : Prop := fnUnroundedRow.holds Try.pinned (OpenSpec.ofChange fnUnroundedSpec)

/-- ITS FALSE NEIGHBOUR: 'it returns false'. Refute it at one input. -/
def fnUnroundedWrong : ChangeSpec := { name := "fnUnrounded", fn := fun _ => fun
  | [d1, d2, d3] => { results := [.lit (.bool false)], args := [d1, d2, d3] }
  | _ => none }
def FnUnroundedWrongFalsely : Prop := fnUnroundedRow.holds Try.pinned (OpenSpec.ofChange fnUnroundedWrong)

/-- 'laws.FnWholeMultiple': WHATEVER THE INPUT: true; the input reads as it did. -/
def fnWholeMultipleSpec : ChangeSpec := { name := "fnWholeMultiple", fn := fun _ => fun
  | [d1, d2] => { results := [.lit (.bool true)], args := [d1, d2] }
  | _ => none }
def fnWholeMultipleRow : OpenClaim := { program := "ytmdhpkhmmnmdlaa", sum := "8582bd3b88f3ac39f3214023c5221b56cfe34c36bb1a2698fe3a7ee4a5419127", func := "loop.example/lib-g01419/laws.FnWholeMultiple", spec := "fnWholeMultiple", apart := false }
def FnWholeMultipleSaid : Prop := fnWholeMultipleRow.holds Try.pinned (OpenSpec.ofChange fnWholeMultipleSpec)

/-- ITS FALSE NEIGHBOUR: 'it returns false'. Refute it at one input. -/
def fnWholeMultipleWrong : ChangeSpec := { name := "fnWholeMultiple", fn := fun _ => fun
  | [d1, d2] => { results := [.lit (.bool false)], args := [d1, d2] }
  | _ => none }
def FnWholeMultipleWrongFalsely : Prop := fnWholeMultipleRow.holds Try.pinned (OpenSpec.ofChange fnWholeMultipleWrong)

/-- 'laws.FnSubSign': WHATEVER THE INPUT: true; the input reads as it did. -/
def fnSubSignSpec : ChangeSpec := { name := "fnSubSign", fn := fun _ => fun
  | [d1, d2, d3, d4] => { results := [.lit (.bool true)], args := [d1, d2, d3, d4] }
  | _ => none }
def fnSubSignRow : OpenClaim := { program := "ytmdhpkhmmnmdlaa", sum := "8582bd3b88f3ac39f3214023c5221b56cfe34c36bb1a2698fe3a7ee4a5419127", func := "loop.example/lib-g01419/laws.FnSubSign", spec := "fnSubSign", apart := false }
def FnSubSignSaid : Prop := fnSubSignRow.holds Try.pinned (OpenSpec.ofChange fnSubSignSpec)

/-- ITS FALSE NEIGHBOUR: 'it returns false'. Refute it at one input. -/
def fnSubSignWrong : ChangeSpec := { name := "fnSubSign", fn := fun _ => fun
  | [d1, d2, d3, d4] => { results := [.lit (.bool false)], args := [d1, d2, d3, d4] }
  | _ => none }
def FnSubSignWrongFalsely : Prop := fnSubSignRow.holds Try.pinned (OpenSpec.ofChange fnSubSignWrong)

/- THE SECOND FORM. 'bulk': how many values and letters a reading holds, each counted each time it is reached (what is shared counts as often as it is met; a slice's spare places count too). A statement '..UptoSaid' is the law's where the arguments, and the package variables that the reading takes, are together of bulk at most 1048576: NARROWER than '..Said'. Prove '..Said' where nothing that the law and all that it calls make is longer than what came in: it says more and counts as full. Else prove '..UptoSaid'. A law counts once. -/
mutual
def uptoBulk {H : Type} : DataW H → Nat
  | .lit (.string bytes) => bytes.length + 1
  | .lit _ => 1
  | .nil => 1
  | .ptr d => uptoBulk d + 1
  | .slice elems spare => uptoBulkAll elems + uptoBulkAll spare + 1
  | .agg parts => uptoBulkAll parts + 1
  | .iface _ d => uptoBulk d + 1
  | .map entries => uptoBulkEntries entries + 1
  | .held _ => 1
def uptoBulkAll {H : Type} : List (DataW H) → Nat
  | [] => 0
  | d :: r => uptoBulk d + uptoBulkAll r
def uptoBulkEntries {H : Type} : List (Lit × DataW H) → Nat
  | [] => 0
  | x :: r => uptoBulkEntry x + uptoBulkEntries r
def uptoBulkEntry {H : Type} : Lit × DataW H → Nat
  | (.string bytes, d) => bytes.length + uptoBulk d + 1
  | (_, d) => uptoBulk d + 1
 end
def uptoSmall : (H : Type) → List (DataW H) → Bool := fun _ ds => decide (uptoBulkAll ds ≤ 1048576)
def OpenSpec.upto (s : _root_.Go.ChangeSpec) : _root_.Go.OpenSpec := { _root_.Go.OpenSpec.ofChange s with cond := some uptoSmall }

/-- 'laws.FnRoundHalf', WHERE WHAT IT READS IS OF BULK AT MOST 1048576: true; the input reads as it did. -/
def fnRoundHalfUptoRow : OpenClaim := { program := "ytmdhpkhmmnmdlaa", sum := "8582bd3b88f3ac39f3214023c5221b56cfe34c36bb1a2698fe3a7ee4a5419127", func := "loop.example/lib-g01419/laws.FnRoundHalf", spec := "fnRoundHalf", apart := false, narrowed := true }
def FnRoundHalfUptoSaid : Prop := fnRoundHalfUptoRow.holds Try.pinned (OpenSpec.upto fnRoundHalfSpec)

/-- 'laws.FnRoundOrTruncate', WHERE WHAT IT READS IS OF BULK AT MOST 1048576: true; the input reads as it did. -/
def fnRoundOrTruncateUptoRow : OpenClaim := { program := "ytmdhpkhmmnmdlaa", sum := "8582bd3b88f3ac39f3214023c5221b56cfe34c36bb1a2698fe3a7ee4a5419127", func := "loop.example/lib-g01419/laws.FnRoundOrTruncate", spec := "fnRoundOrTruncate", apart := false, narrowed := true }
def FnRoundOrTruncateUptoSaid : Prop := fnRoundOrTruncateUptoRow.holds Try.pinned (OpenSpec.upto fnRoundOrTruncateSpec)

/-- 'laws.FnRoundTwice', WHERE WHAT IT READS IS OF BULK AT MOST 1048576: true; the input reads as it did. -/
def fnRoundTwiceUptoRow : OpenClaim := { program := "ytmdhpkhmmnmdlaa", sum := "8582bd3b88f3ac39f3214023c5221b56cfe34c36bb1a2698fe3a7ee4a5419127", func := "loop.example/lib-g01419/laws.FnRoundTwice", spec := "fnRoundTwice", apart := false, narrowed := true }
def FnRoundTwiceUptoSaid : Prop := fnRoundTwiceUptoRow.holds Try.pinned (OpenSpec.upto fnRoundTwiceSpec)

/-- 'laws.FnTruncateShift', WHERE WHAT IT READS IS OF BULK AT MOST 1048576: true; the input reads as it did. -/
def fnTruncateShiftUptoRow : OpenClaim := { program := "ytmdhpkhmmnmdlaa", sum := "8582bd3b88f3ac39f3214023c5221b56cfe34c36bb1a2698fe3a7ee4a5419127", func := "loop.example/lib-g01419/laws.FnTruncateShift", spec := "fnTruncateShift", apart := false, narrowed := true }
def FnTruncateShiftUptoSaid : Prop := fnTruncateShiftUptoRow.holds Try.pinned (OpenSpec.upto fnTruncateShiftSpec)

/-- 'laws.FnTruncateTwice', WHERE WHAT IT READS IS OF BULK AT MOST 1048576: true; the input reads as it did. -/
def fnTruncateTwiceUptoRow : OpenClaim := { program := "ytmdhpkhmmnmdlaa", sum := "8582bd3b88f3ac39f3214023c5221b56cfe34c36bb1a2698fe3a7ee4a5419127", func := "loop.example/lib-g01419/laws.FnTruncateTwice", spec := "fnTruncateTwice", apart := false, narrowed := true }
def FnTruncateTwiceUptoSaid : Prop := fnTruncateTwiceUptoRow.holds Try.pinned (OpenSpec.upto fnTruncateTwiceSpec)

/-- 'laws.FnUnrounded', WHERE WHAT IT READS IS OF BULK AT MOST 1048576: true; the input reads as it did. -/
def fnUnroundedUptoRow : OpenClaim := { program := "ytmdhpkhmmnmdlaa", sum := "8582bd3b88f3ac39f3214023c5221b56cfe34c36bb1a2698fe3a7ee4a5419127", func := "loop.example/lib-g01419/laws.FnUnrounded", spec := "fnUnrounded", apart := false, narrowed := true }
def FnUnroundedUptoSaid : Prop := fnUnroundedUptoRow.holds Try.pinned (OpenSpec.upto fnUnroundedSpec)

/-- 'laws.FnWholeMultiple', WHERE WHAT IT READS IS OF BULK AT MOST 1048576: true; the input reads as it did. -/
def fnWholeMultipleUptoRow : OpenClaim := { program := "ytmdhpkhmmnmdlaa", sum := "8582bd3b88f3ac39f3214023c5221b56cfe34c36bb1a2698fe3a7ee4a5419127", func := "loop.example/lib-g01419/laws.FnWholeMultiple", spec := "fnWholeMultiple", apart := false, narrowed := true }
def FnWholeMultipleUptoSaid : Prop := fnWholeMultipleUptoRow.holds Try.pinned (OpenSpec.upto fnWholeMultipleSpec)

/-- 'laws.FnSubSign', WHERE WHAT IT READS IS OF BULK AT MOST 1048576: true; the input reads as it did. -/
def fnSubSignUptoRow : OpenClaim := { program := "ytmdhpkhmmnmdlaa", sum := "8582bd3b88f3ac39f3214023c5221b56cfe34c36bb1a2698fe3a7ee4a5419127", func := "loop.example/lib-g01419/laws.FnSubSign", spec := "fnSubSign", apart := false, narrowed := true }
def FnSubSignUptoSaid : Prop := fnSubSignUptoRow.holds Try.pinned (OpenSpec.upto fnSubSignSpec)

end Rows
end Go.Proofs.Ytmdhpkhmmnmdlaa
