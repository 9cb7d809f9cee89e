/-
  No cell of these rows narrows 'for every input' (looked for: loops, veiled, ifaces, maps, wideKeys, modest, calm, conditions, laid).
  DERIVED. THE GIVEN ROWS OF THIS SEAT. 11 by the template 'for every input the law returns true; each argument reads behind the call as it read before'; 0 by the template 'total and deterministic' (their statements: YtgcbgoninaobjaaTotals.lean).
  GIVEN WITH THE SEED: the statements are not yours to turn. If you find one false, say at which input.
  Laid BY PROGRAM, IN A SANDBOX (cutbox-rows.mjs): the forced cells as the released guide's own fill.sh prints them over the translation 1adfd04d2ae91a84… (all of the seat's roots in one cut). By AI agents, Wed Nov 11 2026. No macro, syntax, notation, axiom, sorry.
-/
import Derived.Test.YtgcbgoninaobjaaChecked
import GoSem.Claim
import GoSem.ClaimJoined
import GoSem.ClaimMapViews
import Derived.JoinedTies
import Derived.KernelRfl
namespace Go.Proofs.Ytgcbgoninaobjaa
/- THE CELL 'sum', in the pinned program and in every row, IS THE sha256 OF THE DUMP (.gsa) THAT YtgcbgoninaobjaaProg.lean LOADS. Nothing in Lean hashes anything: it is a label: what it is worth is what the hold of that sum in a sandbox is worth. -/
noncomputable def Try.pinned : Pinned := { name := "ytgcbgoninaobjaa", sum := "1adfd04d2ae91a845d7d08e09b6fba56b4653df4825bb1af99aaece3795f73cf", checked := Try.checked }
namespace Rows
def none {H : Type} : Left H := { results := [], args := [] }

/-- 'laws.FnZero': WHATEVER THE INPUT: true; the input reads as it did. -/
def fnZeroSpec : ChangeSpec := { name := "fnZero", fn := fun _ => fun
  | [d1, d2] => { results := [.lit (.bool true)], args := [d1, d2] }
  | _ => none }
def fnZeroRow : OpenClaim := { program := "ytgcbgoninaobjaa", sum := "1adfd04d2ae91a845d7d08e09b6fba56b4653df4825bb1af99aaece3795f73cf", func := "loop.example/lib-g01419/laws.FnZero", spec := "fnZero", apart := false }
def FnZeroSaid : Prop := fnZeroRow.holds Try.pinned (OpenSpec.ofChange fnZeroSpec)

/-- ITS FALSE NEIGHBOUR: 'it returns false'. Refute it at one input. -/
def fnZeroWrong : ChangeSpec := { name := "fnZero", fn := fun _ => fun
  | [d1, d2] => { results := [.lit (.bool false)], args := [d1, d2] }
  | _ => none }
def FnZeroWrongFalsely : Prop := fnZeroRow.holds Try.pinned (OpenSpec.ofChange fnZeroWrong)

/-- 'laws.FnExactCompareOf': WHATEVER THE INPUT: true; the input reads as it did. -/
def fnExactCompareOfSpec : ChangeSpec := { name := "fnExactCompareOf", fn := fun _ => fun
  | [d1, d2, d3, d4] => { results := [.lit (.bool true)], args := [d1, d2, d3, d4] }
  | _ => none }
def fnExactCompareOfRow : OpenClaim := { program := "ytgcbgoninaobjaa", sum := "1adfd04d2ae91a845d7d08e09b6fba56b4653df4825bb1af99aaece3795f73cf", func := "loop.example/lib-g01419/laws.FnExactCompareOf", spec := "fnExactCompareOf", apart := false }
def FnExactCompareOfSaid : Prop := fnExactCompareOfRow.holds Try.pinned (OpenSpec.ofChange fnExactCompareOfSpec)

/-- ITS FALSE NEIGHBOUR: 'it returns false'. Refute it at one input. -/
def fnExactCompareOfWrong : ChangeSpec := { name := "fnExactCompareOf", fn := fun _ => fun
  | [d1, d2, d3, d4] => { results := [.lit (.bool false)], args := [d1, d2, d3, d4] }
  | _ => none }
def FnExactCompareOfWrongFalsely : Prop := fnExactCompareOfRow.holds Try.pinned (OpenSpec.ofChange fnExactCompareOfWrong)

/-- 'laws.FnAddOrder': WHATEVER THE INPUT: true; the input reads as it did. -/
def fnAddOrderSpec : ChangeSpec := { name := "fnAddOrder", fn := fun _ => fun
  | [d1, d2] => { results := [.lit (.bool true)], args := [d1, d2] }
  | _ => none }
def fnAddOrderRow : OpenClaim := { program := "ytgcbgoninaobjaa", sum := "1adfd04d2ae91a845d7d08e09b6fba56b4653df4825bb1af99aaece3795f73cf", func := "loop.example/lib-g01419/laws.FnAddOrder", spec := "fnAddOrder", apart := false }
def FnAddOrderSaid : Prop := fnAddOrderRow.holds Try.pinned (OpenSpec.ofChange fnAddOrderSpec)

/-- ITS FALSE NEIGHBOUR: 'it returns false'. Refute it at one input. -/
def fnAddOrderWrong : ChangeSpec := { name := "fnAddOrder", fn := fun _ => fun
  | [d1, d2] => { results := [.lit (.bool false)], args := [d1, d2] }
  | _ => none }
def FnAddOrderWrongFalsely : Prop := fnAddOrderRow.holds Try.pinned (OpenSpec.ofChange fnAddOrderWrong)

/-- 'laws.FnTurnedOrder': WHATEVER THE INPUT: true; the input reads as it did. -/
def fnTurnedOrderSpec : ChangeSpec := { name := "fnTurnedOrder", fn := fun _ => fun
  | [d1, d2, d3, d4] => { results := [.lit (.bool true)], args := [d1, d2, d3, d4] }
  | _ => none }
def fnTurnedOrderRow : OpenClaim := { program := "ytgcbgoninaobjaa", sum := "1adfd04d2ae91a845d7d08e09b6fba56b4653df4825bb1af99aaece3795f73cf", func := "loop.example/lib-g01419/laws.FnTurnedOrder", spec := "fnTurnedOrder", apart := false }
def FnTurnedOrderSaid : Prop := fnTurnedOrderRow.holds Try.pinned (OpenSpec.ofChange fnTurnedOrderSpec)

/-- ITS FALSE NEIGHBOUR: 'it returns false'. Refute it at one input. -/
def fnTurnedOrderWrong : ChangeSpec := { name := "fnTurnedOrder", fn := fun _ => fun
  | [d1, d2, d3, d4] => { results := [.lit (.bool false)], args := [d1, d2, d3, d4] }
  | _ => none }
def FnTurnedOrderWrongFalsely : Prop := fnTurnedOrderRow.holds Try.pinned (OpenSpec.ofChange fnTurnedOrderWrong)

/-- 'laws.FnAddSum': WHATEVER THE INPUT: true; the input reads as it did. -/
def fnAddSumSpec : ChangeSpec := { name := "fnAddSum", fn := fun _ => fun
  | [d1, d2] => { results := [.lit (.bool true)], args := [d1, d2] }
  | _ => none }
def fnAddSumRow : OpenClaim := { program := "ytgcbgoninaobjaa", sum := "1adfd04d2ae91a845d7d08e09b6fba56b4653df4825bb1af99aaece3795f73cf", func := "loop.example/lib-g01419/laws.FnAddSum", spec := "fnAddSum", apart := false }
def FnAddSumSaid : Prop := fnAddSumRow.holds Try.pinned (OpenSpec.ofChange fnAddSumSpec)

/-- ITS FALSE NEIGHBOUR: 'it returns false'. Refute it at one input. -/
def fnAddSumWrong : ChangeSpec := { name := "fnAddSum", fn := fun _ => fun
  | [d1, d2] => { results := [.lit (.bool false)], args := [d1, d2] }
  | _ => none }
def FnAddSumWrongFalsely : Prop := fnAddSumRow.holds Try.pinned (OpenSpec.ofChange fnAddSumWrong)

/-- 'laws.FnExactAddTo': WHATEVER THE INPUT: true; the input reads as it did. -/
def fnExactAddToSpec : ChangeSpec := { name := "fnExactAddTo", fn := fun _ => fun
  | [d1, d2] => { results := [.lit (.bool true)], args := [d1, d2] }
  | _ => none }
def fnExactAddToRow : OpenClaim := { program := "ytgcbgoninaobjaa", sum := "1adfd04d2ae91a845d7d08e09b6fba56b4653df4825bb1af99aaece3795f73cf", func := "loop.example/lib-g01419/laws.FnExactAddTo", spec := "fnExactAddTo", apart := false }
def FnExactAddToSaid : Prop := fnExactAddToRow.holds Try.pinned (OpenSpec.ofChange fnExactAddToSpec)

/-- ITS FALSE NEIGHBOUR: 'it returns false'. Refute it at one input. -/
def fnExactAddToWrong : ChangeSpec := { name := "fnExactAddTo", fn := fun _ => fun
  | [d1, d2] => { results := [.lit (.bool false)], args := [d1, d2] }
  | _ => none }
def FnExactAddToWrongFalsely : Prop := fnExactAddToRow.holds Try.pinned (OpenSpec.ofChange fnExactAddToWrong)

/-- 'laws.FnAddAllBack': WHATEVER THE INPUT: true; the input reads as it did. -/
def fnAddAllBackSpec : ChangeSpec := { name := "fnAddAllBack", fn := fun _ => fun
  | [d1, d2] => { results := [.lit (.bool true)], args := [d1, d2] }
  | _ => none }
def fnAddAllBackRow : OpenClaim := { program := "ytgcbgoninaobjaa", sum := "1adfd04d2ae91a845d7d08e09b6fba56b4653df4825bb1af99aaece3795f73cf", func := "loop.example/lib-g01419/laws.FnAddAllBack", spec := "fnAddAllBack", apart := false }
def FnAddAllBackSaid : Prop := fnAddAllBackRow.holds Try.pinned (OpenSpec.ofChange fnAddAllBackSpec)

/-- ITS FALSE NEIGHBOUR: 'it returns false'. Refute it at one input. -/
def fnAddAllBackWrong : ChangeSpec := { name := "fnAddAllBack", fn := fun _ => fun
  | [d1, d2] => { results := [.lit (.bool false)], args := [d1, d2] }
  | _ => none }
def FnAddAllBackWrongFalsely : Prop := fnAddAllBackRow.holds Try.pinned (OpenSpec.ofChange fnAddAllBackWrong)

/-- 'laws.FnAddAllTurned': WHATEVER THE INPUT: true; the input reads as it did. -/
def fnAddAllTurnedSpec : ChangeSpec := { name := "fnAddAllTurned", fn := fun _ => fun
  | [d] => { results := [.lit (.bool true)], args := [d] }
  | _ => none }
def fnAddAllTurnedRow : OpenClaim := { program := "ytgcbgoninaobjaa", sum := "1adfd04d2ae91a845d7d08e09b6fba56b4653df4825bb1af99aaece3795f73cf", func := "loop.example/lib-g01419/laws.FnAddAllTurned", spec := "fnAddAllTurned", apart := false }
def FnAddAllTurnedSaid : Prop := fnAddAllTurnedRow.holds Try.pinned (OpenSpec.ofChange fnAddAllTurnedSpec)

/-- ITS FALSE NEIGHBOUR: 'it returns false'. Refute it at one input. -/
def fnAddAllTurnedWrong : ChangeSpec := { name := "fnAddAllTurned", fn := fun _ => fun
  | [d] => { results := [.lit (.bool false)], args := [d] }
  | _ => none }
def FnAddAllTurnedWrongFalsely : Prop := fnAddAllTurnedRow.holds Try.pinned (OpenSpec.ofChange fnAddAllTurnedWrong)

/-- 'laws.FnExactAddAll': WHATEVER THE INPUT: true; the input reads as it did. -/
def fnExactAddAllSpec : ChangeSpec := { name := "fnExactAddAll", fn := fun _ => fun
  | [d] => { results := [.lit (.bool true)], args := [d] }
  | _ => none }
def fnExactAddAllRow : OpenClaim := { program := "ytgcbgoninaobjaa", sum := "1adfd04d2ae91a845d7d08e09b6fba56b4653df4825bb1af99aaece3795f73cf", func := "loop.example/lib-g01419/laws.FnExactAddAll", spec := "fnExactAddAll", apart := false }
def FnExactAddAllSaid : Prop := fnExactAddAllRow.holds Try.pinned (OpenSpec.ofChange fnExactAddAllSpec)

/-- ITS FALSE NEIGHBOUR: 'it returns false'. Refute it at one input. -/
def fnExactAddAllWrong : ChangeSpec := { name := "fnExactAddAll", fn := fun _ => fun
  | [d] => { results := [.lit (.bool false)], args := [d] }
  | _ => none }
def FnExactAddAllWrongFalsely : Prop := fnExactAddAllRow.holds Try.pinned (OpenSpec.ofChange fnExactAddAllWrong)

/-- 'laws.FnSubTurned': WHATEVER THE INPUT: true; the input reads as it did. -/
def fnSubTurnedSpec : ChangeSpec := { name := "fnSubTurned", fn := fun _ => fun
  | [d1, d2, d3, d4] => { results := [.lit (.bool true)], args := [d1, d2, d3, d4] }
  | _ => none }
def fnSubTurnedRow : OpenClaim := { program := "ytgcbgoninaobjaa", sum := "1adfd04d2ae91a845d7d08e09b6fba56b4653df4825bb1af99aaece3795f73cf", func := "loop.example/lib-g01419/laws.FnSubTurned", spec := "fnSubTurned", apart := false }
def FnSubTurnedSaid : Prop := fnSubTurnedRow.holds Try.pinned (OpenSpec.ofChange fnSubTurnedSpec)

/-- ITS FALSE NEIGHBOUR: 'it returns false'. Refute it at one input. -/
def fnSubTurnedWrong : ChangeSpec := { name := "fnSubTurned", fn := fun _ => fun
  | [d1, d2, d3, d4] => { results := [.lit (.bool false)], args := [d1, d2, d3, d4] }
  | _ => none }
def FnSubTurnedWrongFalsely : Prop := fnSubTurnedRow.holds Try.pinned (OpenSpec.ofChange fnSubTurnedWrong)

/-- 'laws.FnAddOneByOne': WHATEVER THE INPUT: true; the input reads as it did. -/
def fnAddOneByOneSpec : ChangeSpec := { name := "fnAddOneByOne", fn := fun _ => fun
  | [d1, d2] => { results := [.lit (.bool true)], args := [d1, d2] }
  | _ => none }
def fnAddOneByOneRow : OpenClaim := { program := "ytgcbgoninaobjaa", sum := "1adfd04d2ae91a845d7d08e09b6fba56b4653df4825bb1af99aaece3795f73cf", func := "loop.example/lib-g01419/laws.FnAddOneByOne", spec := "fnAddOneByOne", apart := false }
def FnAddOneByOneSaid : Prop := fnAddOneByOneRow.holds Try.pinned (OpenSpec.ofChange fnAddOneByOneSpec)

/-- ITS FALSE NEIGHBOUR: 'it returns false'. Refute it at one input. -/
def fnAddOneByOneWrong : ChangeSpec := { name := "fnAddOneByOne", fn := fun _ => fun
  | [d1, d2] => { results := [.lit (.bool false)], args := [d1, d2] }
  | _ => none }
def FnAddOneByOneWrongFalsely : Prop := fnAddOneByOneRow.holds Try.pinned (OpenSpec.ofChange fnAddOneByOneWrong)

/- THE SECOND FORM. 'bulk': how many values and letters a reading holds, each counted each time it is reached (what is shared counts as often as it is met; a slice's spare places count too). A statement '..UptoSaid' is the law's where the arguments, and the package variables that the reading takes, are together of bulk at most 1048576: NARROWER than '..Said'. Prove '..Said' where nothing that the law and all that it calls make is longer than what came in: it says more and counts as full. Else prove '..UptoSaid'. A law counts once. -/
mutual
def uptoBulk {H : Type} : DataW H → Nat
  | .lit (.string bytes) => bytes.length + 1
  | .lit _ => 1
  | .nil => 1
  | .ptr d => uptoBulk d + 1
  | .slice elems spare => uptoBulkAll elems + uptoBulkAll spare + 1
  | .agg parts => uptoBulkAll parts + 1
  | .iface _ d => uptoBulk d + 1
  | .map entries => uptoBulkEntries entries + 1
  | .held _ => 1
def uptoBulkAll {H : Type} : List (DataW H) → Nat
  | [] => 0
  | d :: r => uptoBulk d + uptoBulkAll r
def uptoBulkEntries {H : Type} : List (Lit × DataW H) → Nat
  | [] => 0
  | x :: r => uptoBulkEntry x + uptoBulkEntries r
def uptoBulkEntry {H : Type} : Lit × DataW H → Nat
  | (.string bytes, d) => bytes.length + uptoBulk d + 1
  | (_, d) => uptoBulk d + 1
 end
def uptoSmall : (H : Type) → List (DataW H) → Bool := fun _ ds => decide (uptoBulkAll ds ≤ 1048576)
def OpenSpec.upto (s : _root_.Go.ChangeSpec) : _root_.Go.OpenSpec := { _root_.Go.OpenSpec.ofChange s with cond := some uptoSmall }

/-- 'laws.FnZero', WHERE WHAT IT READS IS OF BULK AT MOST 1048576: true; the input reads as it did. -/
def fnZeroUptoRow : OpenClaim := { program := "ytgcbgoninaobjaa", sum := "1adfd04d2ae91a845d7d08e09b6fba56b4653df4825bb1af99aaece3795f73cf", func := "loop.example/lib-g01419/laws.FnZero", spec := "fnZero", apart := false, narrowed := true }
def FnZeroUptoSaid : Prop := fnZeroUptoRow.holds Try.pinned (OpenSpec.upto fnZeroSpec)

/-- 'laws.FnExactCompareOf', WHERE WHAT IT READS IS OF BULK AT MOST 1048576: true; the input reads as it did. -/
def fnExactCompareOfUptoRow : OpenClaim := { program := "ytgcbgoninaobjaa", sum := "1adfd04d2ae91a845d7d08e09b6fba56b4653df4825bb1af99aaece3795f73cf", func := "loop.example/lib-g01419/laws.FnExactCompareOf", spec := "fnExactCompareOf", apart := false, narrowed := true }
def FnExactCompareOfUptoSaid : Prop := fnExactCompareOfUptoRow.holds Try.pinned (OpenSpec.upto fnExactCompareOfSpec)

/-- 'laws.FnAddOrder', WHERE WHAT IT READS IS OF BULK AT MOST 1048576: true; the input reads as it did. -/
def fnAddOrderUptoRow : OpenClaim := { program := "ytgcbgoninaobjaa", sum := "1adfd04d2ae91a845d7d08e09b6fba56b4653df4825bb1af99aaece3795f73cf", func := "loop.example/lib-g01419/laws.FnAddOrder", spec := "fnAddOrder", apart := false, narrowed := true }
def FnAddOrderUptoSaid : Prop := fnAddOrderUptoRow.holds Try.pinned (OpenSpec.upto fnAddOrderSpec)

/-- 'laws.FnTurnedOrder', WHERE WHAT IT READS IS OF BULK AT MOST 1048576: true; the input reads as it did. -/
def fnTurnedOrderUptoRow : OpenClaim := { program := "ytgcbgoninaobjaa", sum := "1adfd04d2ae91a845d7d08e09b6fba56b4653df4825bb1af99aaece3795f73cf", func := "loop.example/lib-g01419/laws.FnTurnedOrder", spec := "fnTurnedOrder", apart := false, narrowed := true }
def FnTurnedOrderUptoSaid : Prop := fnTurnedOrderUptoRow.holds Try.pinned (OpenSpec.upto fnTurnedOrderSpec)

/-- 'laws.FnAddSum', WHERE WHAT IT READS IS OF BULK AT MOST 1048576: true; the input reads as it did. -/
def fnAddSumUptoRow : OpenClaim := { program := "ytgcbgoninaobjaa", sum := "1adfd04d2ae91a845d7d08e09b6fba56b4653df4825bb1af99aaece3795f73cf", func := "loop.example/lib-g01419/laws.FnAddSum", spec := "fnAddSum", apart := false, narrowed := true }
def FnAddSumUptoSaid : Prop := fnAddSumUptoRow.holds Try.pinned (OpenSpec.upto fnAddSumSpec)

/-- 'laws.FnExactAddTo', WHERE WHAT IT READS IS OF BULK AT MOST 1048576: true; the input reads as it did. -/
def fnExactAddToUptoRow : OpenClaim := { program := "ytgcbgoninaobjaa", sum := "1adfd04d2ae91a845d7d08e09b6fba56b4653df4825bb1af99aaece3795f73cf", func := "loop.example/lib-g01419/laws.FnExactAddTo", spec := "fnExactAddTo", apart := false, narrowed := true }
def FnExactAddToUptoSaid : Prop := fnExactAddToUptoRow.holds Try.pinned (OpenSpec.upto fnExactAddToSpec)

/-- 'laws.FnAddAllBack', WHERE WHAT IT READS IS OF BULK AT MOST 1048576: true; the input reads as it did. -/
def fnAddAllBackUptoRow : OpenClaim := { program := "ytgcbgoninaobjaa", sum := "1adfd04d2ae91a845d7d08e09b6fba56b4653df4825bb1af99aaece3795f73cf", func := "loop.example/lib-g01419/laws.FnAddAllBack", spec := "fnAddAllBack", apart := false, narrowed := true }
def FnAddAllBackUptoSaid : Prop := fnAddAllBackUptoRow.holds Try.pinned (OpenSpec.upto fnAddAllBackSpec)

/-- 'laws.FnAddAllTurned', WHERE WHAT IT READS IS OF BULK AT MOST 1048576: true; the input reads as it did. -/
def fnAddAllTurnedUptoRow : OpenClaim := { program := "ytgcbgoninaobjaa", sum := "1adfd04d2ae91a845d7d08e09b6fba56b4653df4825bb1af99aaece3795f73cf", func := "loop.example/lib-g01419/laws.FnAddAllTurned", spec := "fnAddAllTurned", apart := false, narrowed := true }
def FnAddAllTurnedUptoSaid : Prop := fnAddAllTurnedUptoRow.holds Try.pinned (OpenSpec.upto fnAddAllTurnedSpec)

/-- 'laws.FnExactAddAll', WHERE WHAT IT READS IS OF BULK AT MOST 1048576: true; the input reads as it did. -/
def fnExactAddAllUptoRow : OpenClaim := { program := "ytgcbgoninaobjaa", sum := "1adfd04d2ae91a845d7d08e09b6fba56b4653df4825bb1af99aaece3795f73cf", func := "loop.example/lib-g01419/laws.FnExactAddAll", spec := "fnExactAddAll", apart := false, narrowed := true }
def FnExactAddAllUptoSaid : Prop := fnExactAddAllUptoRow.holds Try.pinned (OpenSpec.upto fnExactAddAllSpec)

/-- 'laws.FnSubTurned', WHERE WHAT IT READS IS OF BULK AT MOST 1048576: true; the input reads as it did. -/
def fnSubTurnedUptoRow : OpenClaim := { program := "ytgcbgoninaobjaa", sum := "1adfd04d2ae91a845d7d08e09b6fba56b4653df4825bb1af99aaece3795f73cf", func := "loop.example/lib-g01419/laws.FnSubTurned", spec := "fnSubTurned", apart := false, narrowed := true }
def FnSubTurnedUptoSaid : Prop := fnSubTurnedUptoRow.holds Try.pinned (OpenSpec.upto fnSubTurnedSpec)

/-- 'laws.FnAddOneByOne', WHERE WHAT IT READS IS OF BULK AT MOST 1048576: true; the input reads as it did. -/
def fnAddOneByOneUptoRow : OpenClaim := { program := "ytgcbgoninaobjaa", sum := "1adfd04d2ae91a845d7d08e09b6fba56b4653df4825bb1af99aaece3795f73cf", func := "loop.example/lib-g01419/laws.FnAddOneByOne", spec := "fnAddOneByOne", apart := false, narrowed := true }
def FnAddOneByOneUptoSaid : Prop := fnAddOneByOneUptoRow.holds Try.pinned (OpenSpec.upto fnAddOneByOneSpec)

end Rows
end Go.Proofs.Ytgcbgoninaobjaa
