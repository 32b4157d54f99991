/-
  No cell of these rows narrows 'for every input' (looked for: loops, veiled, ifaces, maps, wideKeys, modest, calm, conditions, laid).
  DERIVED. THE GIVEN ROWS OF THIS SEAT. 12 by the template 'for every input the law returns true; each argument reads behind the call as it read before'; 0 by the template 'total and deterministic' (their statements: YtibdaodneipmjaaTotals.lean).
  GIVEN WITH THE SEED: the statements are not yours to turn. If you find one false, say at which input.
  Laid BY PROGRAM, IN A SANDBOX (cutbox-rows.mjs): the forced cells as the released guide's own fill.sh prints them over the translation 0c04bf4ba04c1381… (all of the seat's roots in one cut). By AI agents, Wed Nov 11 2026. No macro, syntax, notation, axiom, sorry.
-/
import Derived.Test.YtibdaodneipmjaaChecked
import GoSem.Claim
import GoSem.ClaimJoined
import GoSem.ClaimMapViews
import Derived.JoinedTies
import Derived.KernelRfl
namespace Go.Proofs.Ytibdaodneipmjaa
/- THE CELL 'sum', in the pinned program and in every row, IS THE sha256 OF THE DUMP (.gsa) THAT YtibdaodneipmjaaProg.lean LOADS. Nothing in Lean hashes anything: it is a label: what it is worth is what the hold of that sum in a sandbox is worth. -/
noncomputable def Try.pinned : Pinned := { name := "ytibdaodneipmjaa", sum := "0c04bf4ba04c13815c8c023524dbea963b7c2fcdf03a1af65b8f95db96d0dbd6", checked := Try.checked }
namespace Rows
def none {H : Type} : Left H := { results := [], args := [] }

/-- 'laws.FnInitOrPush': WHATEVER THE INPUT: true; the input reads as it did. -/
def fnInitOrPushSpec : ChangeSpec := { name := "fnInitOrPush", fn := fun _ => fun
  | [d] => { results := [.lit (.bool true)], args := [d] }
  | _ => none }
def fnInitOrPushRow : OpenClaim := { program := "ytibdaodneipmjaa", sum := "0c04bf4ba04c13815c8c023524dbea963b7c2fcdf03a1af65b8f95db96d0dbd6", func := "loop.example/lib-g01086/laws.FnInitOrPush", spec := "fnInitOrPush", unfollowed := true, recurses := true, apart := false }
def FnInitOrPushSaid : Prop := fnInitOrPushRow.holds Try.pinned (OpenSpec.ofChange fnInitOrPushSpec)

/-- ITS FALSE NEIGHBOUR: 'it returns false'. Refute it at one input. -/
def fnInitOrPushWrong : ChangeSpec := { name := "fnInitOrPush", fn := fun _ => fun
  | [d] => { results := [.lit (.bool false)], args := [d] }
  | _ => none }
def FnInitOrPushWrongFalsely : Prop := fnInitOrPushRow.holds Try.pinned (OpenSpec.ofChange fnInitOrPushWrong)

/-- 'laws.FnSortAgain': WHATEVER THE INPUT: true; the input reads as it did. -/
def fnSortAgainSpec : ChangeSpec := { name := "fnSortAgain", fn := fun _ => fun
  | [d] => { results := [.lit (.bool true)], args := [d] }
  | _ => none }
def fnSortAgainRow : OpenClaim := { program := "ytibdaodneipmjaa", sum := "0c04bf4ba04c13815c8c023524dbea963b7c2fcdf03a1af65b8f95db96d0dbd6", func := "loop.example/lib-g01086/laws.FnSortAgain", spec := "fnSortAgain", unfollowed := true, recurses := true, apart := false }
def FnSortAgainSaid : Prop := fnSortAgainRow.holds Try.pinned (OpenSpec.ofChange fnSortAgainSpec)

/-- ITS FALSE NEIGHBOUR: 'it returns false'. Refute it at one input. -/
def fnSortAgainWrong : ChangeSpec := { name := "fnSortAgain", fn := fun _ => fun
  | [d] => { results := [.lit (.bool false)], args := [d] }
  | _ => none }
def FnSortAgainWrongFalsely : Prop := fnSortAgainRow.holds Try.pinned (OpenSpec.ofChange fnSortAgainWrong)

/-- 'laws.FnSortAnyOrder': WHATEVER THE INPUT: true; the input reads as it did. -/
def fnSortAnyOrderSpec : ChangeSpec := { name := "fnSortAnyOrder", fn := fun _ => fun
  | [d1, d2] => { results := [.lit (.bool true)], args := [d1, d2] }
  | _ => none }
def fnSortAnyOrderRow : OpenClaim := { program := "ytibdaodneipmjaa", sum := "0c04bf4ba04c13815c8c023524dbea963b7c2fcdf03a1af65b8f95db96d0dbd6", func := "loop.example/lib-g01086/laws.FnSortAnyOrder", spec := "fnSortAnyOrder", unfollowed := true, recurses := true, apart := false }
def FnSortAnyOrderSaid : Prop := fnSortAnyOrderRow.holds Try.pinned (OpenSpec.ofChange fnSortAnyOrderSpec)

/-- ITS FALSE NEIGHBOUR: 'it returns false'. Refute it at one input. -/
def fnSortAnyOrderWrong : ChangeSpec := { name := "fnSortAnyOrder", fn := fun _ => fun
  | [d1, d2] => { results := [.lit (.bool false)], args := [d1, d2] }
  | _ => none }
def FnSortAnyOrderWrongFalsely : Prop := fnSortAnyOrderRow.holds Try.pinned (OpenSpec.ofChange fnSortAnyOrderWrong)

/-- 'laws.FnSortAscending': WHATEVER THE INPUT: true; the input reads as it did. -/
def fnSortAscendingSpec : ChangeSpec := { name := "fnSortAscending", fn := fun _ => fun
  | [d] => { results := [.lit (.bool true)], args := [d] }
  | _ => none }
def fnSortAscendingRow : OpenClaim := { program := "ytibdaodneipmjaa", sum := "0c04bf4ba04c13815c8c023524dbea963b7c2fcdf03a1af65b8f95db96d0dbd6", func := "loop.example/lib-g01086/laws.FnSortAscending", spec := "fnSortAscending", unfollowed := true, recurses := true, apart := false }
def FnSortAscendingSaid : Prop := fnSortAscendingRow.holds Try.pinned (OpenSpec.ofChange fnSortAscendingSpec)

/-- ITS FALSE NEIGHBOUR: 'it returns false'. Refute it at one input. -/
def fnSortAscendingWrong : ChangeSpec := { name := "fnSortAscending", fn := fun _ => fun
  | [d] => { results := [.lit (.bool false)], args := [d] }
  | _ => none }
def FnSortAscendingWrongFalsely : Prop := fnSortAscendingRow.holds Try.pinned (OpenSpec.ofChange fnSortAscendingWrong)

/-- 'laws.FnFirstPops': WHATEVER THE INPUT: true; the input reads as it did. -/
def fnFirstPopsSpec : ChangeSpec := { name := "fnFirstPops", fn := fun _ => fun
  | [d1, d2] => { results := [.lit (.bool true)], args := [d1, d2] }
  | _ => none }
def fnFirstPopsRow : OpenClaim := { program := "ytibdaodneipmjaa", sum := "0c04bf4ba04c13815c8c023524dbea963b7c2fcdf03a1af65b8f95db96d0dbd6", func := "loop.example/lib-g01086/laws.FnFirstPops", spec := "fnFirstPops", unfollowed := true, recurses := true, apart := false }
def FnFirstPopsSaid : Prop := fnFirstPopsRow.holds Try.pinned (OpenSpec.ofChange fnFirstPopsSpec)

/-- ITS FALSE NEIGHBOUR: 'it returns false'. Refute it at one input. -/
def fnFirstPopsWrong : ChangeSpec := { name := "fnFirstPops", fn := fun _ => fun
  | [d1, d2] => { results := [.lit (.bool false)], args := [d1, d2] }
  | _ => none }
def FnFirstPopsWrongFalsely : Prop := fnFirstPopsRow.holds Try.pinned (OpenSpec.ofChange fnFirstPopsWrong)

/-- 'laws.FnExactHeapFirstInts': WHATEVER THE INPUT: true; the input reads as it did. -/
def fnExactHeapFirstIntsSpec : ChangeSpec := { name := "fnExactHeapFirstInts", fn := fun _ => fun
  | [d1, d2] => { results := [.lit (.bool true)], args := [d1, d2] }
  | _ => none }
def fnExactHeapFirstIntsRow : OpenClaim := { program := "ytibdaodneipmjaa", sum := "0c04bf4ba04c13815c8c023524dbea963b7c2fcdf03a1af65b8f95db96d0dbd6", func := "loop.example/lib-g01086/laws.FnExactHeapFirstInts", spec := "fnExactHeapFirstInts", unfollowed := true, recurses := true, apart := false }
def FnExactHeapFirstIntsSaid : Prop := fnExactHeapFirstIntsRow.holds Try.pinned (OpenSpec.ofChange fnExactHeapFirstIntsSpec)

/-- ITS FALSE NEIGHBOUR: 'it returns false'. Refute it at one input. -/
def fnExactHeapFirstIntsWrong : ChangeSpec := { name := "fnExactHeapFirstInts", fn := fun _ => fun
  | [d1, d2] => { results := [.lit (.bool false)], args := [d1, d2] }
  | _ => none }
def FnExactHeapFirstIntsWrongFalsely : Prop := fnExactHeapFirstIntsRow.holds Try.pinned (OpenSpec.ofChange fnExactHeapFirstIntsWrong)

/-- 'laws.FnExactHeapSortInts': WHATEVER THE INPUT: true; the input reads as it did. -/
def fnExactHeapSortIntsSpec : ChangeSpec := { name := "fnExactHeapSortInts", fn := fun _ => fun
  | [d] => { results := [.lit (.bool true)], args := [d] }
  | _ => none }
def fnExactHeapSortIntsRow : OpenClaim := { program := "ytibdaodneipmjaa", sum := "0c04bf4ba04c13815c8c023524dbea963b7c2fcdf03a1af65b8f95db96d0dbd6", func := "loop.example/lib-g01086/laws.FnExactHeapSortInts", spec := "fnExactHeapSortInts", unfollowed := true, recurses := true, apart := false }
def FnExactHeapSortIntsSaid : Prop := fnExactHeapSortIntsRow.holds Try.pinned (OpenSpec.ofChange fnExactHeapSortIntsSpec)

/-- ITS FALSE NEIGHBOUR: 'it returns false'. Refute it at one input. -/
def fnExactHeapSortIntsWrong : ChangeSpec := { name := "fnExactHeapSortInts", fn := fun _ => fun
  | [d] => { results := [.lit (.bool false)], args := [d] }
  | _ => none }
def FnExactHeapSortIntsWrongFalsely : Prop := fnExactHeapSortIntsRow.holds Try.pinned (OpenSpec.ofChange fnExactHeapSortIntsWrong)

/-- 'laws.FnExactHeapPushSortInts': WHATEVER THE INPUT: true; the input reads as it did. -/
def fnExactHeapPushSortIntsSpec : ChangeSpec := { name := "fnExactHeapPushSortInts", fn := fun _ => fun
  | [d] => { results := [.lit (.bool true)], args := [d] }
  | _ => none }
def fnExactHeapPushSortIntsRow : OpenClaim := { program := "ytibdaodneipmjaa", sum := "0c04bf4ba04c13815c8c023524dbea963b7c2fcdf03a1af65b8f95db96d0dbd6", func := "loop.example/lib-g01086/laws.FnExactHeapPushSortInts", spec := "fnExactHeapPushSortInts", unfollowed := true, recurses := true, apart := false }
def FnExactHeapPushSortIntsSaid : Prop := fnExactHeapPushSortIntsRow.holds Try.pinned (OpenSpec.ofChange fnExactHeapPushSortIntsSpec)

/-- ITS FALSE NEIGHBOUR: 'it returns false'. Refute it at one input. -/
def fnExactHeapPushSortIntsWrong : ChangeSpec := { name := "fnExactHeapPushSortInts", fn := fun _ => fun
  | [d] => { results := [.lit (.bool false)], args := [d] }
  | _ => none }
def FnExactHeapPushSortIntsWrongFalsely : Prop := fnExactHeapPushSortIntsRow.holds Try.pinned (OpenSpec.ofChange fnExactHeapPushSortIntsWrong)

/-- 'laws.FnExactHeapSortGreatest': WHATEVER THE INPUT: true; the input reads as it did. -/
def fnExactHeapSortGreatestSpec : ChangeSpec := { name := "fnExactHeapSortGreatest", fn := fun _ => fun
  | [d] => { results := [.lit (.bool true)], args := [d] }
  | _ => none }
def fnExactHeapSortGreatestRow : OpenClaim := { program := "ytibdaodneipmjaa", sum := "0c04bf4ba04c13815c8c023524dbea963b7c2fcdf03a1af65b8f95db96d0dbd6", func := "loop.example/lib-g01086/laws.FnExactHeapSortGreatest", spec := "fnExactHeapSortGreatest", unfollowed := true, recurses := true, apart := false }
def FnExactHeapSortGreatestSaid : Prop := fnExactHeapSortGreatestRow.holds Try.pinned (OpenSpec.ofChange fnExactHeapSortGreatestSpec)

/-- ITS FALSE NEIGHBOUR: 'it returns false'. Refute it at one input. -/
def fnExactHeapSortGreatestWrong : ChangeSpec := { name := "fnExactHeapSortGreatest", fn := fun _ => fun
  | [d] => { results := [.lit (.bool false)], args := [d] }
  | _ => none }
def FnExactHeapSortGreatestWrongFalsely : Prop := fnExactHeapSortGreatestRow.holds Try.pinned (OpenSpec.ofChange fnExactHeapSortGreatestWrong)

/-- 'laws.FnGreatestFirst': WHATEVER THE INPUT: true; the input reads as it did. -/
def fnGreatestFirstSpec : ChangeSpec := { name := "fnGreatestFirst", fn := fun _ => fun
  | [d] => { results := [.lit (.bool true)], args := [d] }
  | _ => none }
def fnGreatestFirstRow : OpenClaim := { program := "ytibdaodneipmjaa", sum := "0c04bf4ba04c13815c8c023524dbea963b7c2fcdf03a1af65b8f95db96d0dbd6", func := "loop.example/lib-g01086/laws.FnGreatestFirst", spec := "fnGreatestFirst", unfollowed := true, recurses := true, apart := false }
def FnGreatestFirstSaid : Prop := fnGreatestFirstRow.holds Try.pinned (OpenSpec.ofChange fnGreatestFirstSpec)

/-- ITS FALSE NEIGHBOUR: 'it returns false'. Refute it at one input. -/
def fnGreatestFirstWrong : ChangeSpec := { name := "fnGreatestFirst", fn := fun _ => fun
  | [d] => { results := [.lit (.bool false)], args := [d] }
  | _ => none }
def FnGreatestFirstWrongFalsely : Prop := fnGreatestFirstRow.holds Try.pinned (OpenSpec.ofChange fnGreatestFirstWrong)

/-- 'laws.FnExactHeapSortStrings': WHATEVER THE INPUT: true; the input reads as it did. -/
def fnExactHeapSortStringsSpec : ChangeSpec := { name := "fnExactHeapSortStrings", fn := fun _ => fun
  | [d] => { results := [.lit (.bool true)], args := [d] }
  | _ => none }
def fnExactHeapSortStringsRow : OpenClaim := { program := "ytibdaodneipmjaa", sum := "0c04bf4ba04c13815c8c023524dbea963b7c2fcdf03a1af65b8f95db96d0dbd6", func := "loop.example/lib-g01086/laws.FnExactHeapSortStrings", spec := "fnExactHeapSortStrings", unfollowed := true, recurses := true, apart := false }
def FnExactHeapSortStringsSaid : Prop := fnExactHeapSortStringsRow.holds Try.pinned (OpenSpec.ofChange fnExactHeapSortStringsSpec)

/-- ITS FALSE NEIGHBOUR: 'it returns false'. Refute it at one input. -/
def fnExactHeapSortStringsWrong : ChangeSpec := { name := "fnExactHeapSortStrings", fn := fun _ => fun
  | [d] => { results := [.lit (.bool false)], args := [d] }
  | _ => none }
def FnExactHeapSortStringsWrongFalsely : Prop := fnExactHeapSortStringsRow.holds Try.pinned (OpenSpec.ofChange fnExactHeapSortStringsWrong)

/-- 'laws.FnSortStrings': WHATEVER THE INPUT: true; the input reads as it did. -/
def fnSortStringsSpec : ChangeSpec := { name := "fnSortStrings", fn := fun _ => fun
  | [d] => { results := [.lit (.bool true)], args := [d] }
  | _ => none }
def fnSortStringsRow : OpenClaim := { program := "ytibdaodneipmjaa", sum := "0c04bf4ba04c13815c8c023524dbea963b7c2fcdf03a1af65b8f95db96d0dbd6", func := "loop.example/lib-g01086/laws.FnSortStrings", spec := "fnSortStrings", unfollowed := true, recurses := true, apart := false }
def FnSortStringsSaid : Prop := fnSortStringsRow.holds Try.pinned (OpenSpec.ofChange fnSortStringsSpec)

/-- ITS FALSE NEIGHBOUR: 'it returns false'. Refute it at one input. -/
def fnSortStringsWrong : ChangeSpec := { name := "fnSortStrings", fn := fun _ => fun
  | [d] => { results := [.lit (.bool false)], args := [d] }
  | _ => none }
def FnSortStringsWrongFalsely : Prop := fnSortStringsRow.holds Try.pinned (OpenSpec.ofChange fnSortStringsWrong)

/- THE SECOND FORM. 'bulk': how many values and letters a reading holds, each counted each time it is reached (what is shared counts as often as it is met; a slice's spare places count too). A statement '..UptoSaid' is the law's where the arguments, and the package variables that the reading takes, are together of bulk at most 1048576: NARROWER than '..Said'. Prove '..Said' where nothing that the law and all that it calls make is longer than what came in: it says more and counts as full. Else prove '..UptoSaid'. A law counts once. -/
mutual
def uptoBulk {H : Type} : DataW H → Nat
  | .lit (.string bytes) => bytes.length + 1
  | .lit _ => 1
  | .nil => 1
  | .ptr d => uptoBulk d + 1
  | .slice elems spare => uptoBulkAll elems + uptoBulkAll spare + 1
  | .agg parts => uptoBulkAll parts + 1
  | .iface _ d => uptoBulk d + 1
  | .map entries => uptoBulkEntries entries + 1
  | .held _ => 1
def uptoBulkAll {H : Type} : List (DataW H) → Nat
  | [] => 0
  | d :: r => uptoBulk d + uptoBulkAll r
def uptoBulkEntries {H : Type} : List (Lit × DataW H) → Nat
  | [] => 0
  | x :: r => uptoBulkEntry x + uptoBulkEntries r
def uptoBulkEntry {H : Type} : Lit × DataW H → Nat
  | (.string bytes, d) => bytes.length + uptoBulk d + 1
  | (_, d) => uptoBulk d + 1
 end
def uptoSmall : (H : Type) → List (DataW H) → Bool := fun _ ds => decide (uptoBulkAll ds ≤ 1048576)
def OpenSpec.upto (s : _root_.Go.ChangeSpec) : _root_.Go.OpenSpec := { _root_.Go.OpenSpec.ofChange s with cond := some uptoSmall }

/-- 'laws.FnInitOrPush', WHERE WHAT IT READS IS OF BULK AT MOST 1048576: true; the input reads as it did. -/
def fnInitOrPushUptoRow : OpenClaim := { program := "ytibdaodneipmjaa", sum := "0c04bf4ba04c13815c8c023524dbea963b7c2fcdf03a1af65b8f95db96d0dbd6", func := "loop.example/lib-g01086/laws.FnInitOrPush", spec := "fnInitOrPush", unfollowed := true, recurses := true, apart := false, narrowed := true }
def FnInitOrPushUptoSaid : Prop := fnInitOrPushUptoRow.holds Try.pinned (OpenSpec.upto fnInitOrPushSpec)

/-- 'laws.FnSortAgain', WHERE WHAT IT READS IS OF BULK AT MOST 1048576: true; the input reads as it did. -/
def fnSortAgainUptoRow : OpenClaim := { program := "ytibdaodneipmjaa", sum := "0c04bf4ba04c13815c8c023524dbea963b7c2fcdf03a1af65b8f95db96d0dbd6", func := "loop.example/lib-g01086/laws.FnSortAgain", spec := "fnSortAgain", unfollowed := true, recurses := true, apart := false, narrowed := true }
def FnSortAgainUptoSaid : Prop := fnSortAgainUptoRow.holds Try.pinned (OpenSpec.upto fnSortAgainSpec)

/-- 'laws.FnSortAnyOrder', WHERE WHAT IT READS IS OF BULK AT MOST 1048576: true; the input reads as it did. -/
def fnSortAnyOrderUptoRow : OpenClaim := { program := "ytibdaodneipmjaa", sum := "0c04bf4ba04c13815c8c023524dbea963b7c2fcdf03a1af65b8f95db96d0dbd6", func := "loop.example/lib-g01086/laws.FnSortAnyOrder", spec := "fnSortAnyOrder", unfollowed := true, recurses := true, apart := false, narrowed := true }
def FnSortAnyOrderUptoSaid : Prop := fnSortAnyOrderUptoRow.holds Try.pinned (OpenSpec.upto fnSortAnyOrderSpec)

/-- 'laws.FnSortAscending', WHERE WHAT IT READS IS OF BULK AT MOST 1048576: true; the input reads as it did. -/
def fnSortAscendingUptoRow : OpenClaim := { program := "ytibdaodneipmjaa", sum := "0c04bf4ba04c13815c8c023524dbea963b7c2fcdf03a1af65b8f95db96d0dbd6", func := "loop.example/lib-g01086/laws.FnSortAscending", spec := "fnSortAscending", unfollowed := true, recurses := true, apart := false, narrowed := true }
def FnSortAscendingUptoSaid : Prop := fnSortAscendingUptoRow.holds Try.pinned (OpenSpec.upto fnSortAscendingSpec)

/-- 'laws.FnFirstPops', WHERE WHAT IT READS IS OF BULK AT MOST 1048576: true; the input reads as it did. -/
def fnFirstPopsUptoRow : OpenClaim := { program := "ytibdaodneipmjaa", sum := "0c04bf4ba04c13815c8c023524dbea963b7c2fcdf03a1af65b8f95db96d0dbd6", func := "loop.example/lib-g01086/laws.FnFirstPops", spec := "fnFirstPops", unfollowed := true, recurses := true, apart := false, narrowed := true }
def FnFirstPopsUptoSaid : Prop := fnFirstPopsUptoRow.holds Try.pinned (OpenSpec.upto fnFirstPopsSpec)

/-- 'laws.FnExactHeapFirstInts', WHERE WHAT IT READS IS OF BULK AT MOST 1048576: true; the input reads as it did. -/
def fnExactHeapFirstIntsUptoRow : OpenClaim := { program := "ytibdaodneipmjaa", sum := "0c04bf4ba04c13815c8c023524dbea963b7c2fcdf03a1af65b8f95db96d0dbd6", func := "loop.example/lib-g01086/laws.FnExactHeapFirstInts", spec := "fnExactHeapFirstInts", unfollowed := true, recurses := true, apart := false, narrowed := true }
def FnExactHeapFirstIntsUptoSaid : Prop := fnExactHeapFirstIntsUptoRow.holds Try.pinned (OpenSpec.upto fnExactHeapFirstIntsSpec)

/-- 'laws.FnExactHeapSortInts', WHERE WHAT IT READS IS OF BULK AT MOST 1048576: true; the input reads as it did. -/
def fnExactHeapSortIntsUptoRow : OpenClaim := { program := "ytibdaodneipmjaa", sum := "0c04bf4ba04c13815c8c023524dbea963b7c2fcdf03a1af65b8f95db96d0dbd6", func := "loop.example/lib-g01086/laws.FnExactHeapSortInts", spec := "fnExactHeapSortInts", unfollowed := true, recurses := true, apart := false, narrowed := true }
def FnExactHeapSortIntsUptoSaid : Prop := fnExactHeapSortIntsUptoRow.holds Try.pinned (OpenSpec.upto fnExactHeapSortIntsSpec)

/-- 'laws.FnExactHeapPushSortInts', WHERE WHAT IT READS IS OF BULK AT MOST 1048576: true; the input reads as it did. -/
def fnExactHeapPushSortIntsUptoRow : OpenClaim := { program := "ytibdaodneipmjaa", sum := "0c04bf4ba04c13815c8c023524dbea963b7c2fcdf03a1af65b8f95db96d0dbd6", func := "loop.example/lib-g01086/laws.FnExactHeapPushSortInts", spec := "fnExactHeapPushSortInts", unfollowed := true, recurses := true, apart := false, narrowed := true }
def FnExactHeapPushSortIntsUptoSaid : Prop := fnExactHeapPushSortIntsUptoRow.holds Try.pinned (OpenSpec.upto fnExactHeapPushSortIntsSpec)

/-- 'laws.FnExactHeapSortGreatest', WHERE WHAT IT READS IS OF BULK AT MOST 1048576: true; the input reads as it did. -/
def fnExactHeapSortGreatestUptoRow : OpenClaim := { program := "ytibdaodneipmjaa", sum := "0c04bf4ba04c13815c8c023524dbea963b7c2fcdf03a1af65b8f95db96d0dbd6", func := "loop.example/lib-g01086/laws.FnExactHeapSortGreatest", spec := "fnExactHeapSortGreatest", unfollowed := true, recurses := true, apart := false, narrowed := true }
def FnExactHeapSortGreatestUptoSaid : Prop := fnExactHeapSortGreatestUptoRow.holds Try.pinned (OpenSpec.upto fnExactHeapSortGreatestSpec)

/-- 'laws.FnGreatestFirst', WHERE WHAT IT READS IS OF BULK AT MOST 1048576: true; the input reads as it did. -/
def fnGreatestFirstUptoRow : OpenClaim := { program := "ytibdaodneipmjaa", sum := "0c04bf4ba04c13815c8c023524dbea963b7c2fcdf03a1af65b8f95db96d0dbd6", func := "loop.example/lib-g01086/laws.FnGreatestFirst", spec := "fnGreatestFirst", unfollowed := true, recurses := true, apart := false, narrowed := true }
def FnGreatestFirstUptoSaid : Prop := fnGreatestFirstUptoRow.holds Try.pinned (OpenSpec.upto fnGreatestFirstSpec)

/-- 'laws.FnExactHeapSortStrings', WHERE WHAT IT READS IS OF BULK AT MOST 1048576: true; the input reads as it did. -/
def fnExactHeapSortStringsUptoRow : OpenClaim := { program := "ytibdaodneipmjaa", sum := "0c04bf4ba04c13815c8c023524dbea963b7c2fcdf03a1af65b8f95db96d0dbd6", func := "loop.example/lib-g01086/laws.FnExactHeapSortStrings", spec := "fnExactHeapSortStrings", unfollowed := true, recurses := true, apart := false, narrowed := true }
def FnExactHeapSortStringsUptoSaid : Prop := fnExactHeapSortStringsUptoRow.holds Try.pinned (OpenSpec.upto fnExactHeapSortStringsSpec)

/-- 'laws.FnSortStrings', WHERE WHAT IT READS IS OF BULK AT MOST 1048576: true; the input reads as it did. -/
def fnSortStringsUptoRow : OpenClaim := { program := "ytibdaodneipmjaa", sum := "0c04bf4ba04c13815c8c023524dbea963b7c2fcdf03a1af65b8f95db96d0dbd6", func := "loop.example/lib-g01086/laws.FnSortStrings", spec := "fnSortStrings", unfollowed := true, recurses := true, apart := false, narrowed := true }
def FnSortStringsUptoSaid : Prop := fnSortStringsUptoRow.holds Try.pinned (OpenSpec.upto fnSortStringsSpec)

end Rows
end Go.Proofs.Ytibdaodneipmjaa
