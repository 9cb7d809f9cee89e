/-
  No cell of these rows narrows 'for every input' (looked for: loops, veiled, ifaces, maps, wideKeys, modest, calm, conditions, laid).
  DERIVED. THE GIVEN ROWS OF THIS SEAT. 12 by the template 'for every input the law returns true; each argument reads behind the call as it read before'; 0 by the template 'total and deterministic' (their statements: YtedknjcbpklihaaTotals.lean).
  GIVEN WITH THE SEED: the statements are not yours to turn. If you find one false, say at which input.
  Laid BY PROGRAM, IN A SANDBOX (cutbox-rows.mjs): the forced cells as the released guide's own fill.sh prints them over the translation cfbc69fb98420c22… (all of the seat's roots in one cut). By AI agents, Wed Nov 11 2026. No macro, syntax, notation, axiom, sorry.
-/
import Derived.Test.YtedknjcbpklihaaChecked
import GoSem.Claim
import GoSem.ClaimJoined
import GoSem.ClaimMapViews
import Derived.JoinedTies
import Derived.KernelRfl
namespace Go.Proofs.Ytedknjcbpklihaa
/- THE CELL 'sum', in the pinned program and in every row, IS THE sha256 OF THE DUMP (.gsa) THAT YtedknjcbpklihaaProg.lean LOADS. Nothing in Lean hashes anything: it is a label: what it is worth is what the hold of that sum in a sandbox is worth. -/
noncomputable def Try.pinned : Pinned := { name := "ytedknjcbpklihaa", sum := "cfbc69fb98420c22db2b8c9551824f2e52348cd459ade5319f929a29fbde63d7", checked := Try.checked }
namespace Rows
def none {H : Type} : Left H := { results := [], args := [] }

/-- 'laws.FnUnix': WHATEVER THE INPUT: true; the input reads as it did. -/
def fnUnixSpec : ChangeSpec := { name := "fnUnix", fn := fun _ => fun
  | [d] => { results := [.lit (.bool true)], args := [d] }
  | _ => none }
def fnUnixRow : OpenClaim := { program := "ytedknjcbpklihaa", sum := "cfbc69fb98420c22db2b8c9551824f2e52348cd459ade5319f929a29fbde63d7", func := "loop.example/lib-g01419/laws.FnUnix", spec := "fnUnix", apart := false }
def FnUnixSaid : Prop := fnUnixRow.holds Try.pinned (OpenSpec.ofChange fnUnixSpec)

/-- ITS FALSE NEIGHBOUR: 'it returns false'. Refute it at one input. -/
def fnUnixWrong : ChangeSpec := { name := "fnUnix", fn := fun _ => fun
  | [d] => { results := [.lit (.bool false)], args := [d] }
  | _ => none }
def FnUnixWrongFalsely : Prop := fnUnixRow.holds Try.pinned (OpenSpec.ofChange fnUnixWrong)

/-- 'laws.FnUnixStep': WHATEVER THE INPUT: true; the input reads as it did. -/
def fnUnixStepSpec : ChangeSpec := { name := "fnUnixStep", fn := fun _ => fun
  | [d1, d2] => { results := [.lit (.bool true)], args := [d1, d2] }
  | _ => none }
def fnUnixStepRow : OpenClaim := { program := "ytedknjcbpklihaa", sum := "cfbc69fb98420c22db2b8c9551824f2e52348cd459ade5319f929a29fbde63d7", func := "loop.example/lib-g01419/laws.FnUnixStep", spec := "fnUnixStep", apart := false }
def FnUnixStepSaid : Prop := fnUnixStepRow.holds Try.pinned (OpenSpec.ofChange fnUnixStepSpec)

/-- ITS FALSE NEIGHBOUR: 'it returns false'. Refute it at one input. -/
def fnUnixStepWrong : ChangeSpec := { name := "fnUnixStep", fn := fun _ => fun
  | [d1, d2] => { results := [.lit (.bool false)], args := [d1, d2] }
  | _ => none }
def FnUnixStepWrongFalsely : Prop := fnUnixStepRow.holds Try.pinned (OpenSpec.ofChange fnUnixStepWrong)

/-- 'laws.FnExactEqualOf': WHATEVER THE INPUT: true; the input reads as it did. -/
def fnExactEqualOfSpec : ChangeSpec := { name := "fnExactEqualOf", fn := fun _ => fun
  | [d1, d2, d3, d4] => { results := [.lit (.bool true)], args := [d1, d2, d3, d4] }
  | _ => none }
def fnExactEqualOfRow : OpenClaim := { program := "ytedknjcbpklihaa", sum := "cfbc69fb98420c22db2b8c9551824f2e52348cd459ade5319f929a29fbde63d7", func := "loop.example/lib-g01419/laws.FnExactEqualOf", spec := "fnExactEqualOf", apart := false }
def FnExactEqualOfSaid : Prop := fnExactEqualOfRow.holds Try.pinned (OpenSpec.ofChange fnExactEqualOfSpec)

/-- ITS FALSE NEIGHBOUR: 'it returns false'. Refute it at one input. -/
def fnExactEqualOfWrong : ChangeSpec := { name := "fnExactEqualOf", fn := fun _ => fun
  | [d1, d2, d3, d4] => { results := [.lit (.bool false)], args := [d1, d2, d3, d4] }
  | _ => none }
def FnExactEqualOfWrongFalsely : Prop := fnExactEqualOfRow.holds Try.pinned (OpenSpec.ofChange fnExactEqualOfWrong)

/-- 'laws.FnExactZeroOf': WHATEVER THE INPUT: true; the input reads as it did. -/
def fnExactZeroOfSpec : ChangeSpec := { name := "fnExactZeroOf", fn := fun _ => fun
  | [d1, d2] => { results := [.lit (.bool true)], args := [d1, d2] }
  | _ => none }
def fnExactZeroOfRow : OpenClaim := { program := "ytedknjcbpklihaa", sum := "cfbc69fb98420c22db2b8c9551824f2e52348cd459ade5319f929a29fbde63d7", func := "loop.example/lib-g01419/laws.FnExactZeroOf", spec := "fnExactZeroOf", apart := false }
def FnExactZeroOfSaid : Prop := fnExactZeroOfRow.holds Try.pinned (OpenSpec.ofChange fnExactZeroOfSpec)

/-- ITS FALSE NEIGHBOUR: 'it returns false'. Refute it at one input. -/
def fnExactZeroOfWrong : ChangeSpec := { name := "fnExactZeroOf", fn := fun _ => fun
  | [d1, d2] => { results := [.lit (.bool false)], args := [d1, d2] }
  | _ => none }
def FnExactZeroOfWrongFalsely : Prop := fnExactZeroOfRow.holds Try.pinned (OpenSpec.ofChange fnExactZeroOfWrong)

/-- 'laws.FnOneOfThree': WHATEVER THE INPUT: true; the input reads as it did. -/
def fnOneOfThreeSpec : ChangeSpec := { name := "fnOneOfThree", fn := fun _ => fun
  | [d1, d2, d3, d4] => { results := [.lit (.bool true)], args := [d1, d2, d3, d4] }
  | _ => none }
def fnOneOfThreeRow : OpenClaim := { program := "ytedknjcbpklihaa", sum := "cfbc69fb98420c22db2b8c9551824f2e52348cd459ade5319f929a29fbde63d7", func := "loop.example/lib-g01419/laws.FnOneOfThree", spec := "fnOneOfThree", apart := false }
def FnOneOfThreeSaid : Prop := fnOneOfThreeRow.holds Try.pinned (OpenSpec.ofChange fnOneOfThreeSpec)

/-- ITS FALSE NEIGHBOUR: 'it returns false'. Refute it at one input. -/
def fnOneOfThreeWrong : ChangeSpec := { name := "fnOneOfThree", fn := fun _ => fun
  | [d1, d2, d3, d4] => { results := [.lit (.bool false)], args := [d1, d2, d3, d4] }
  | _ => none }
def FnOneOfThreeWrongFalsely : Prop := fnOneOfThreeRow.holds Try.pinned (OpenSpec.ofChange fnOneOfThreeWrong)

/-- 'laws.FnExactAfterOf': WHATEVER THE INPUT: true; the input reads as it did. -/
def fnExactAfterOfSpec : ChangeSpec := { name := "fnExactAfterOf", fn := fun _ => fun
  | [d1, d2, d3, d4] => { results := [.lit (.bool true)], args := [d1, d2, d3, d4] }
  | _ => none }
def fnExactAfterOfRow : OpenClaim := { program := "ytedknjcbpklihaa", sum := "cfbc69fb98420c22db2b8c9551824f2e52348cd459ade5319f929a29fbde63d7", func := "loop.example/lib-g01419/laws.FnExactAfterOf", spec := "fnExactAfterOf", apart := false }
def FnExactAfterOfSaid : Prop := fnExactAfterOfRow.holds Try.pinned (OpenSpec.ofChange fnExactAfterOfSpec)

/-- ITS FALSE NEIGHBOUR: 'it returns false'. Refute it at one input. -/
def fnExactAfterOfWrong : ChangeSpec := { name := "fnExactAfterOf", fn := fun _ => fun
  | [d1, d2, d3, d4] => { results := [.lit (.bool false)], args := [d1, d2, d3, d4] }
  | _ => none }
def FnExactAfterOfWrongFalsely : Prop := fnExactAfterOfRow.holds Try.pinned (OpenSpec.ofChange fnExactAfterOfWrong)

/-- 'laws.FnExactBeforeOf': WHATEVER THE INPUT: true; the input reads as it did. -/
def fnExactBeforeOfSpec : ChangeSpec := { name := "fnExactBeforeOf", fn := fun _ => fun
  | [d1, d2, d3, d4] => { results := [.lit (.bool true)], args := [d1, d2, d3, d4] }
  | _ => none }
def fnExactBeforeOfRow : OpenClaim := { program := "ytedknjcbpklihaa", sum := "cfbc69fb98420c22db2b8c9551824f2e52348cd459ade5319f929a29fbde63d7", func := "loop.example/lib-g01419/laws.FnExactBeforeOf", spec := "fnExactBeforeOf", apart := false }
def FnExactBeforeOfSaid : Prop := fnExactBeforeOfRow.holds Try.pinned (OpenSpec.ofChange fnExactBeforeOfSpec)

/-- ITS FALSE NEIGHBOUR: 'it returns false'. Refute it at one input. -/
def fnExactBeforeOfWrong : ChangeSpec := { name := "fnExactBeforeOf", fn := fun _ => fun
  | [d1, d2, d3, d4] => { results := [.lit (.bool false)], args := [d1, d2, d3, d4] }
  | _ => none }
def FnExactBeforeOfWrongFalsely : Prop := fnExactBeforeOfRow.holds Try.pinned (OpenSpec.ofChange fnExactBeforeOfWrong)

/-- 'laws.FnExactSubOf': WHATEVER THE INPUT: true; the input reads as it did. -/
def fnExactSubOfSpec : ChangeSpec := { name := "fnExactSubOf", fn := fun _ => fun
  | [d1, d2, d3, d4] => { results := [.lit (.bool true)], args := [d1, d2, d3, d4] }
  | _ => none }
def fnExactSubOfRow : OpenClaim := { program := "ytedknjcbpklihaa", sum := "cfbc69fb98420c22db2b8c9551824f2e52348cd459ade5319f929a29fbde63d7", func := "loop.example/lib-g01419/laws.FnExactSubOf", spec := "fnExactSubOf", apart := false }
def FnExactSubOfSaid : Prop := fnExactSubOfRow.holds Try.pinned (OpenSpec.ofChange fnExactSubOfSpec)

/-- ITS FALSE NEIGHBOUR: 'it returns false'. Refute it at one input. -/
def fnExactSubOfWrong : ChangeSpec := { name := "fnExactSubOf", fn := fun _ => fun
  | [d1, d2, d3, d4] => { results := [.lit (.bool false)], args := [d1, d2, d3, d4] }
  | _ => none }
def FnExactSubOfWrongFalsely : Prop := fnExactSubOfRow.holds Try.pinned (OpenSpec.ofChange fnExactSubOfWrong)

/-- 'laws.FnSubAdd': WHATEVER THE INPUT: true; the input reads as it did. -/
def fnSubAddSpec : ChangeSpec := { name := "fnSubAdd", fn := fun _ => fun
  | [d1, d2] => { results := [.lit (.bool true)], args := [d1, d2] }
  | _ => none }
def fnSubAddRow : OpenClaim := { program := "ytedknjcbpklihaa", sum := "cfbc69fb98420c22db2b8c9551824f2e52348cd459ade5319f929a29fbde63d7", func := "loop.example/lib-g01419/laws.FnSubAdd", spec := "fnSubAdd", apart := false }
def FnSubAddSaid : Prop := fnSubAddRow.holds Try.pinned (OpenSpec.ofChange fnSubAddSpec)

/-- ITS FALSE NEIGHBOUR: 'it returns false'. Refute it at one input. -/
def fnSubAddWrong : ChangeSpec := { name := "fnSubAdd", fn := fun _ => fun
  | [d1, d2] => { results := [.lit (.bool false)], args := [d1, d2] }
  | _ => none }
def FnSubAddWrongFalsely : Prop := fnSubAddRow.holds Try.pinned (OpenSpec.ofChange fnSubAddWrong)

/-- 'laws.FnSubReaches': WHATEVER THE INPUT: true; the input reads as it did. -/
def fnSubReachesSpec : ChangeSpec := { name := "fnSubReaches", fn := fun _ => fun
  | [d1, d2, d3, d4] => { results := [.lit (.bool true)], args := [d1, d2, d3, d4] }
  | _ => none }
def fnSubReachesRow : OpenClaim := { program := "ytedknjcbpklihaa", sum := "cfbc69fb98420c22db2b8c9551824f2e52348cd459ade5319f929a29fbde63d7", func := "loop.example/lib-g01419/laws.FnSubReaches", spec := "fnSubReaches", apart := false }
def FnSubReachesSaid : Prop := fnSubReachesRow.holds Try.pinned (OpenSpec.ofChange fnSubReachesSpec)

/-- ITS FALSE NEIGHBOUR: 'it returns false'. Refute it at one input. -/
def fnSubReachesWrong : ChangeSpec := { name := "fnSubReaches", fn := fun _ => fun
  | [d1, d2, d3, d4] => { results := [.lit (.bool false)], args := [d1, d2, d3, d4] }
  | _ => none }
def FnSubReachesWrongFalsely : Prop := fnSubReachesRow.holds Try.pinned (OpenSpec.ofChange fnSubReachesWrong)

/-- 'laws.FnShifted': WHATEVER THE INPUT: true; the input reads as it did. -/
def fnShiftedSpec : ChangeSpec := { name := "fnShifted", fn := fun _ => fun
  | [d1, d2, d3] => { results := [.lit (.bool true)], args := [d1, d2, d3] }
  | _ => none }
def fnShiftedRow : OpenClaim := { program := "ytedknjcbpklihaa", sum := "cfbc69fb98420c22db2b8c9551824f2e52348cd459ade5319f929a29fbde63d7", func := "loop.example/lib-g01419/laws.FnShifted", spec := "fnShifted", apart := false }
def FnShiftedSaid : Prop := fnShiftedRow.holds Try.pinned (OpenSpec.ofChange fnShiftedSpec)

/-- ITS FALSE NEIGHBOUR: 'it returns false'. Refute it at one input. -/
def fnShiftedWrong : ChangeSpec := { name := "fnShifted", fn := fun _ => fun
  | [d1, d2, d3] => { results := [.lit (.bool false)], args := [d1, d2, d3] }
  | _ => none }
def FnShiftedWrongFalsely : Prop := fnShiftedRow.holds Try.pinned (OpenSpec.ofChange fnShiftedWrong)

/-- 'laws.FnSubThrough': WHATEVER THE INPUT: true; the input reads as it did. -/
def fnSubThroughSpec : ChangeSpec := { name := "fnSubThrough", fn := fun _ => fun
  | [d1, d2, d3] => { results := [.lit (.bool true)], args := [d1, d2, d3] }
  | _ => none }
def fnSubThroughRow : OpenClaim := { program := "ytedknjcbpklihaa", sum := "cfbc69fb98420c22db2b8c9551824f2e52348cd459ade5319f929a29fbde63d7", func := "loop.example/lib-g01419/laws.FnSubThrough", spec := "fnSubThrough", apart := false }
def FnSubThroughSaid : Prop := fnSubThroughRow.holds Try.pinned (OpenSpec.ofChange fnSubThroughSpec)

/-- ITS FALSE NEIGHBOUR: 'it returns false'. Refute it at one input. -/
def fnSubThroughWrong : ChangeSpec := { name := "fnSubThrough", fn := fun _ => fun
  | [d1, d2, d3] => { results := [.lit (.bool false)], args := [d1, d2, d3] }
  | _ => none }
def FnSubThroughWrongFalsely : Prop := fnSubThroughRow.holds Try.pinned (OpenSpec.ofChange fnSubThroughWrong)

/- THE SECOND FORM. 'bulk': how many values and letters a reading holds, each counted each time it is reached (what is shared counts as often as it is met; a slice's spare places count too). A statement '..UptoSaid' is the law's where the arguments, and the package variables that the reading takes, are together of bulk at most 1048576: NARROWER than '..Said'. Prove '..Said' where nothing that the law and all that it calls make is longer than what came in: it says more and counts as full. Else prove '..UptoSaid'. A law counts once. -/
mutual
def uptoBulk {H : Type} : DataW H → Nat
  | .lit (.string bytes) => bytes.length + 1
  | .lit _ => 1
  | .nil => 1
  | .ptr d => uptoBulk d + 1
  | .slice elems spare => uptoBulkAll elems + uptoBulkAll spare + 1
  | .agg parts => uptoBulkAll parts + 1
  | .iface _ d => uptoBulk d + 1
  | .map entries => uptoBulkEntries entries + 1
  | .held _ => 1
def uptoBulkAll {H : Type} : List (DataW H) → Nat
  | [] => 0
  | d :: r => uptoBulk d + uptoBulkAll r
def uptoBulkEntries {H : Type} : List (Lit × DataW H) → Nat
  | [] => 0
  | x :: r => uptoBulkEntry x + uptoBulkEntries r
def uptoBulkEntry {H : Type} : Lit × DataW H → Nat
  | (.string bytes, d) => bytes.length + uptoBulk d + 1
  | (_, d) => uptoBulk d + 1
 end
def uptoSmall : (H : Type) → List (DataW H) → Bool := fun _ ds => decide (uptoBulkAll ds ≤ 1048576)
def OpenSpec.upto (s : _root_.Go.ChangeSpec) : _root_.Go.OpenSpec := { _root_.Go.OpenSpec.ofChange s with cond := some uptoSmall }

/-- 'laws.FnUnix', WHERE WHAT IT READS IS OF BULK AT MOST 1048576: true; the input reads as it did. -/
def fnUnixUptoRow : OpenClaim := { program := "ytedknjcbpklihaa", sum := "cfbc69fb98420c22db2b8c9551824f2e52348cd459ade5319f929a29fbde63d7", func := "loop.example/lib-g01419/laws.FnUnix", spec := "fnUnix", apart := false, narrowed := true }
def FnUnixUptoSaid : Prop := fnUnixUptoRow.holds Try.pinned (OpenSpec.upto fnUnixSpec)

/-- 'laws.FnUnixStep', WHERE WHAT IT READS IS OF BULK AT MOST 1048576: true; the input reads as it did. -/
def fnUnixStepUptoRow : OpenClaim := { program := "ytedknjcbpklihaa", sum := "cfbc69fb98420c22db2b8c9551824f2e52348cd459ade5319f929a29fbde63d7", func := "loop.example/lib-g01419/laws.FnUnixStep", spec := "fnUnixStep", apart := false, narrowed := true }
def FnUnixStepUptoSaid : Prop := fnUnixStepUptoRow.holds Try.pinned (OpenSpec.upto fnUnixStepSpec)

/-- 'laws.FnExactEqualOf', WHERE WHAT IT READS IS OF BULK AT MOST 1048576: true; the input reads as it did. -/
def fnExactEqualOfUptoRow : OpenClaim := { program := "ytedknjcbpklihaa", sum := "cfbc69fb98420c22db2b8c9551824f2e52348cd459ade5319f929a29fbde63d7", func := "loop.example/lib-g01419/laws.FnExactEqualOf", spec := "fnExactEqualOf", apart := false, narrowed := true }
def FnExactEqualOfUptoSaid : Prop := fnExactEqualOfUptoRow.holds Try.pinned (OpenSpec.upto fnExactEqualOfSpec)

/-- 'laws.FnExactZeroOf', WHERE WHAT IT READS IS OF BULK AT MOST 1048576: true; the input reads as it did. -/
def fnExactZeroOfUptoRow : OpenClaim := { program := "ytedknjcbpklihaa", sum := "cfbc69fb98420c22db2b8c9551824f2e52348cd459ade5319f929a29fbde63d7", func := "loop.example/lib-g01419/laws.FnExactZeroOf", spec := "fnExactZeroOf", apart := false, narrowed := true }
def FnExactZeroOfUptoSaid : Prop := fnExactZeroOfUptoRow.holds Try.pinned (OpenSpec.upto fnExactZeroOfSpec)

/-- 'laws.FnOneOfThree', WHERE WHAT IT READS IS OF BULK AT MOST 1048576: true; the input reads as it did. -/
def fnOneOfThreeUptoRow : OpenClaim := { program := "ytedknjcbpklihaa", sum := "cfbc69fb98420c22db2b8c9551824f2e52348cd459ade5319f929a29fbde63d7", func := "loop.example/lib-g01419/laws.FnOneOfThree", spec := "fnOneOfThree", apart := false, narrowed := true }
def FnOneOfThreeUptoSaid : Prop := fnOneOfThreeUptoRow.holds Try.pinned (OpenSpec.upto fnOneOfThreeSpec)

/-- 'laws.FnExactAfterOf', WHERE WHAT IT READS IS OF BULK AT MOST 1048576: true; the input reads as it did. -/
def fnExactAfterOfUptoRow : OpenClaim := { program := "ytedknjcbpklihaa", sum := "cfbc69fb98420c22db2b8c9551824f2e52348cd459ade5319f929a29fbde63d7", func := "loop.example/lib-g01419/laws.FnExactAfterOf", spec := "fnExactAfterOf", apart := false, narrowed := true }
def FnExactAfterOfUptoSaid : Prop := fnExactAfterOfUptoRow.holds Try.pinned (OpenSpec.upto fnExactAfterOfSpec)

/-- 'laws.FnExactBeforeOf', WHERE WHAT IT READS IS OF BULK AT MOST 1048576: true; the input reads as it did. -/
def fnExactBeforeOfUptoRow : OpenClaim := { program := "ytedknjcbpklihaa", sum := "cfbc69fb98420c22db2b8c9551824f2e52348cd459ade5319f929a29fbde63d7", func := "loop.example/lib-g01419/laws.FnExactBeforeOf", spec := "fnExactBeforeOf", apart := false, narrowed := true }
def FnExactBeforeOfUptoSaid : Prop := fnExactBeforeOfUptoRow.holds Try.pinned (OpenSpec.upto fnExactBeforeOfSpec)

/-- 'laws.FnExactSubOf', WHERE WHAT IT READS IS OF BULK AT MOST 1048576: true; the input reads as it did. -/
def fnExactSubOfUptoRow : OpenClaim := { program := "ytedknjcbpklihaa", sum := "cfbc69fb98420c22db2b8c9551824f2e52348cd459ade5319f929a29fbde63d7", func := "loop.example/lib-g01419/laws.FnExactSubOf", spec := "fnExactSubOf", apart := false, narrowed := true }
def FnExactSubOfUptoSaid : Prop := fnExactSubOfUptoRow.holds Try.pinned (OpenSpec.upto fnExactSubOfSpec)

/-- 'laws.FnSubAdd', WHERE WHAT IT READS IS OF BULK AT MOST 1048576: true; the input reads as it did. -/
def fnSubAddUptoRow : OpenClaim := { program := "ytedknjcbpklihaa", sum := "cfbc69fb98420c22db2b8c9551824f2e52348cd459ade5319f929a29fbde63d7", func := "loop.example/lib-g01419/laws.FnSubAdd", spec := "fnSubAdd", apart := false, narrowed := true }
def FnSubAddUptoSaid : Prop := fnSubAddUptoRow.holds Try.pinned (OpenSpec.upto fnSubAddSpec)

/-- 'laws.FnSubReaches', WHERE WHAT IT READS IS OF BULK AT MOST 1048576: true; the input reads as it did. -/
def fnSubReachesUptoRow : OpenClaim := { program := "ytedknjcbpklihaa", sum := "cfbc69fb98420c22db2b8c9551824f2e52348cd459ade5319f929a29fbde63d7", func := "loop.example/lib-g01419/laws.FnSubReaches", spec := "fnSubReaches", apart := false, narrowed := true }
def FnSubReachesUptoSaid : Prop := fnSubReachesUptoRow.holds Try.pinned (OpenSpec.upto fnSubReachesSpec)

/-- 'laws.FnShifted', WHERE WHAT IT READS IS OF BULK AT MOST 1048576: true; the input reads as it did. -/
def fnShiftedUptoRow : OpenClaim := { program := "ytedknjcbpklihaa", sum := "cfbc69fb98420c22db2b8c9551824f2e52348cd459ade5319f929a29fbde63d7", func := "loop.example/lib-g01419/laws.FnShifted", spec := "fnShifted", apart := false, narrowed := true }
def FnShiftedUptoSaid : Prop := fnShiftedUptoRow.holds Try.pinned (OpenSpec.upto fnShiftedSpec)

/-- 'laws.FnSubThrough', WHERE WHAT IT READS IS OF BULK AT MOST 1048576: true; the input reads as it did. -/
def fnSubThroughUptoRow : OpenClaim := { program := "ytedknjcbpklihaa", sum := "cfbc69fb98420c22db2b8c9551824f2e52348cd459ade5319f929a29fbde63d7", func := "loop.example/lib-g01419/laws.FnSubThrough", spec := "fnSubThrough", apart := false, narrowed := true }
def FnSubThroughUptoSaid : Prop := fnSubThroughUptoRow.holds Try.pinned (OpenSpec.upto fnSubThroughSpec)

end Rows
end Go.Proofs.Ytedknjcbpklihaa
