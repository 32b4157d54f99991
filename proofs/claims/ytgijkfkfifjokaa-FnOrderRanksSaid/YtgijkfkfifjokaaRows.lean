/-
  No cell of these rows narrows 'for every input' (looked for: loops, veiled, ifaces, maps, wideKeys, modest, calm, conditions, laid).
  DERIVED. THE GIVEN ROWS OF THIS SEAT. 11 by the template 'for every input the law returns true; each argument reads behind the call as it read before'; 0 by the template 'total and deterministic' (their statements: YtgijkfkfifjokaaTotals.lean).
  GIVEN WITH THE SEED: the statements are not yours to turn. If you find one false, say at which input.
  Laid BY PROGRAM, IN A SANDBOX (cutbox-rows.mjs): the forced cells as the released guide's own fill.sh prints them over the translation 43821305564dc4e7… (all of the seat's roots in one cut). By AI agents, Wed Nov 11 2026. No macro, syntax, notation, axiom, sorry.
-/
import Derived.Test.YtgijkfkfifjokaaChecked
import GoSem.Claim
import GoSem.ClaimJoined
import GoSem.ClaimMapViews
import Derived.JoinedTies
import Derived.KernelRfl
namespace Go.Proofs.Ytgijkfkfifjokaa
/- THE CELL 'sum', in the pinned program and in every row, IS THE sha256 OF THE DUMP (.gsa) THAT YtgijkfkfifjokaaProg.lean LOADS. Nothing in Lean hashes anything: it is a label: what it is worth is what the hold of that sum in a sandbox is worth. -/
noncomputable def Try.pinned : Pinned := { name := "ytgijkfkfifjokaa", sum := "43821305564dc4e7e21f61b772f9bb63e293d9368b134017f09da8af88397621", checked := Try.checked }
namespace Rows
def none {H : Type} : Left H := { results := [], args := [] }

/-- 'laws.FnOrderAnyInit': WHATEVER THE INPUT: true; the input reads as it did. -/
def fnOrderAnyInitSpec : ChangeSpec := { name := "fnOrderAnyInit", fn := fun _ => fun
  | [d1, d2] => { results := [.lit (.bool true)], args := [d1, d2] }
  | _ => none }
def fnOrderAnyInitRow : OpenClaim := { program := "ytgijkfkfifjokaa", sum := "43821305564dc4e7e21f61b772f9bb63e293d9368b134017f09da8af88397621", func := "loop.example/lib-g01086/laws.FnOrderAnyInit", spec := "fnOrderAnyInit", unfollowed := true, recurses := true, apart := false }
def FnOrderAnyInitSaid : Prop := fnOrderAnyInitRow.holds Try.pinned (OpenSpec.ofChange fnOrderAnyInitSpec)

/-- ITS FALSE NEIGHBOUR: 'it returns false'. Refute it at one input. -/
def fnOrderAnyInitWrong : ChangeSpec := { name := "fnOrderAnyInit", fn := fun _ => fun
  | [d1, d2] => { results := [.lit (.bool false)], args := [d1, d2] }
  | _ => none }
def FnOrderAnyInitWrongFalsely : Prop := fnOrderAnyInitRow.holds Try.pinned (OpenSpec.ofChange fnOrderAnyInitWrong)

/-- 'laws.FnOrderInit': WHATEVER THE INPUT: true; the input reads as it did. -/
def fnOrderInitSpec : ChangeSpec := { name := "fnOrderInit", fn := fun _ => fun
  | [d1, d2] => { results := [.lit (.bool true)], args := [d1, d2] }
  | _ => none }
def fnOrderInitRow : OpenClaim := { program := "ytgijkfkfifjokaa", sum := "43821305564dc4e7e21f61b772f9bb63e293d9368b134017f09da8af88397621", func := "loop.example/lib-g01086/laws.FnOrderInit", spec := "fnOrderInit", unfollowed := true, recurses := true, apart := false }
def FnOrderInitSaid : Prop := fnOrderInitRow.holds Try.pinned (OpenSpec.ofChange fnOrderInitSpec)

/-- ITS FALSE NEIGHBOUR: 'it returns false'. Refute it at one input. -/
def fnOrderInitWrong : ChangeSpec := { name := "fnOrderInit", fn := fun _ => fun
  | [d1, d2] => { results := [.lit (.bool false)], args := [d1, d2] }
  | _ => none }
def FnOrderInitWrongFalsely : Prop := fnOrderInitRow.holds Try.pinned (OpenSpec.ofChange fnOrderInitWrong)

/-- 'laws.FnOrderAnySort': WHATEVER THE INPUT: true; the input reads as it did. -/
def fnOrderAnySortSpec : ChangeSpec := { name := "fnOrderAnySort", fn := fun _ => fun
  | [d1, d2] => { results := [.lit (.bool true)], args := [d1, d2] }
  | _ => none }
def fnOrderAnySortRow : OpenClaim := { program := "ytgijkfkfifjokaa", sum := "43821305564dc4e7e21f61b772f9bb63e293d9368b134017f09da8af88397621", func := "loop.example/lib-g01086/laws.FnOrderAnySort", spec := "fnOrderAnySort", unfollowed := true, recurses := true, apart := false }
def FnOrderAnySortSaid : Prop := fnOrderAnySortRow.holds Try.pinned (OpenSpec.ofChange fnOrderAnySortSpec)

/-- ITS FALSE NEIGHBOUR: 'it returns false'. Refute it at one input. -/
def fnOrderAnySortWrong : ChangeSpec := { name := "fnOrderAnySort", fn := fun _ => fun
  | [d1, d2] => { results := [.lit (.bool false)], args := [d1, d2] }
  | _ => none }
def FnOrderAnySortWrongFalsely : Prop := fnOrderAnySortRow.holds Try.pinned (OpenSpec.ofChange fnOrderAnySortWrong)

/-- 'laws.FnOrderSorted': WHATEVER THE INPUT: true; the input reads as it did. -/
def fnOrderSortedSpec : ChangeSpec := { name := "fnOrderSorted", fn := fun _ => fun
  | [d1, d2] => { results := [.lit (.bool true)], args := [d1, d2] }
  | _ => none }
def fnOrderSortedRow : OpenClaim := { program := "ytgijkfkfifjokaa", sum := "43821305564dc4e7e21f61b772f9bb63e293d9368b134017f09da8af88397621", func := "loop.example/lib-g01086/laws.FnOrderSorted", spec := "fnOrderSorted", unfollowed := true, recurses := true, apart := false }
def FnOrderSortedSaid : Prop := fnOrderSortedRow.holds Try.pinned (OpenSpec.ofChange fnOrderSortedSpec)

/-- ITS FALSE NEIGHBOUR: 'it returns false'. Refute it at one input. -/
def fnOrderSortedWrong : ChangeSpec := { name := "fnOrderSorted", fn := fun _ => fun
  | [d1, d2] => { results := [.lit (.bool false)], args := [d1, d2] }
  | _ => none }
def FnOrderSortedWrongFalsely : Prop := fnOrderSortedRow.holds Try.pinned (OpenSpec.ofChange fnOrderSortedWrong)

/-- 'laws.FnOrderKeeps': WHATEVER THE INPUT: true; the input reads as it did. -/
def fnOrderKeepsSpec : ChangeSpec := { name := "fnOrderKeeps", fn := fun _ => fun
  | [d1, d2] => { results := [.lit (.bool true)], args := [d1, d2] }
  | _ => none }
def fnOrderKeepsRow : OpenClaim := { program := "ytgijkfkfifjokaa", sum := "43821305564dc4e7e21f61b772f9bb63e293d9368b134017f09da8af88397621", func := "loop.example/lib-g01086/laws.FnOrderKeeps", spec := "fnOrderKeeps", unfollowed := true, recurses := true, apart := false }
def FnOrderKeepsSaid : Prop := fnOrderKeepsRow.holds Try.pinned (OpenSpec.ofChange fnOrderKeepsSpec)

/-- ITS FALSE NEIGHBOUR: 'it returns false'. Refute it at one input. -/
def fnOrderKeepsWrong : ChangeSpec := { name := "fnOrderKeeps", fn := fun _ => fun
  | [d1, d2] => { results := [.lit (.bool false)], args := [d1, d2] }
  | _ => none }
def FnOrderKeepsWrongFalsely : Prop := fnOrderKeepsRow.holds Try.pinned (OpenSpec.ofChange fnOrderKeepsWrong)

/-- 'laws.FnOrderRanks': WHATEVER THE INPUT: true; the input reads as it did. -/
def fnOrderRanksSpec : ChangeSpec := { name := "fnOrderRanks", fn := fun _ => fun
  | [d1, d2] => { results := [.lit (.bool true)], args := [d1, d2] }
  | _ => none }
def fnOrderRanksRow : OpenClaim := { program := "ytgijkfkfifjokaa", sum := "43821305564dc4e7e21f61b772f9bb63e293d9368b134017f09da8af88397621", func := "loop.example/lib-g01086/laws.FnOrderRanks", spec := "fnOrderRanks", unfollowed := true, recurses := true, apart := false }
def FnOrderRanksSaid : Prop := fnOrderRanksRow.holds Try.pinned (OpenSpec.ofChange fnOrderRanksSpec)

/-- ITS FALSE NEIGHBOUR: 'it returns false'. Refute it at one input. -/
def fnOrderRanksWrong : ChangeSpec := { name := "fnOrderRanks", fn := fun _ => fun
  | [d1, d2] => { results := [.lit (.bool false)], args := [d1, d2] }
  | _ => none }
def FnOrderRanksWrongFalsely : Prop := fnOrderRanksRow.holds Try.pinned (OpenSpec.ofChange fnOrderRanksWrong)

/-- 'laws.FnAnyPops': WHATEVER THE INPUT: true; the input reads as it did. -/
def fnAnyPopsSpec : ChangeSpec := { name := "fnAnyPops", fn := fun _ => fun
  | [d] => { results := [.lit (.bool true)], args := [d] }
  | _ => none }
def fnAnyPopsRow : OpenClaim := { program := "ytgijkfkfifjokaa", sum := "43821305564dc4e7e21f61b772f9bb63e293d9368b134017f09da8af88397621", func := "loop.example/lib-g01086/laws.FnAnyPops", spec := "fnAnyPops", unfollowed := true, recurses := true, apart := false }
def FnAnyPopsSaid : Prop := fnAnyPopsRow.holds Try.pinned (OpenSpec.ofChange fnAnyPopsSpec)

/-- ITS FALSE NEIGHBOUR: 'it returns false'. Refute it at one input. -/
def fnAnyPopsWrong : ChangeSpec := { name := "fnAnyPops", fn := fun _ => fun
  | [d] => { results := [.lit (.bool false)], args := [d] }
  | _ => none }
def FnAnyPopsWrongFalsely : Prop := fnAnyPopsRow.holds Try.pinned (OpenSpec.ofChange fnAnyPopsWrong)

/-- 'laws.FnPopAscending': WHATEVER THE INPUT: true; the input reads as it did. -/
def fnPopAscendingSpec : ChangeSpec := { name := "fnPopAscending", fn := fun _ => fun
  | [d] => { results := [.lit (.bool true)], args := [d] }
  | _ => none }
def fnPopAscendingRow : OpenClaim := { program := "ytgijkfkfifjokaa", sum := "43821305564dc4e7e21f61b772f9bb63e293d9368b134017f09da8af88397621", func := "loop.example/lib-g01086/laws.FnPopAscending", spec := "fnPopAscending", unfollowed := true, recurses := true, apart := false }
def FnPopAscendingSaid : Prop := fnPopAscendingRow.holds Try.pinned (OpenSpec.ofChange fnPopAscendingSpec)

/-- ITS FALSE NEIGHBOUR: 'it returns false'. Refute it at one input. -/
def fnPopAscendingWrong : ChangeSpec := { name := "fnPopAscending", fn := fun _ => fun
  | [d] => { results := [.lit (.bool false)], args := [d] }
  | _ => none }
def FnPopAscendingWrongFalsely : Prop := fnPopAscendingRow.holds Try.pinned (OpenSpec.ofChange fnPopAscendingWrong)

/-- 'laws.FnPopItems': WHATEVER THE INPUT: true; the input reads as it did. -/
def fnPopItemsSpec : ChangeSpec := { name := "fnPopItems", fn := fun _ => fun
  | [d] => { results := [.lit (.bool true)], args := [d] }
  | _ => none }
def fnPopItemsRow : OpenClaim := { program := "ytgijkfkfifjokaa", sum := "43821305564dc4e7e21f61b772f9bb63e293d9368b134017f09da8af88397621", func := "loop.example/lib-g01086/laws.FnPopItems", spec := "fnPopItems", unfollowed := true, recurses := true, apart := false }
def FnPopItemsSaid : Prop := fnPopItemsRow.holds Try.pinned (OpenSpec.ofChange fnPopItemsSpec)

/-- ITS FALSE NEIGHBOUR: 'it returns false'. Refute it at one input. -/
def fnPopItemsWrong : ChangeSpec := { name := "fnPopItems", fn := fun _ => fun
  | [d] => { results := [.lit (.bool false)], args := [d] }
  | _ => none }
def FnPopItemsWrongFalsely : Prop := fnPopItemsRow.holds Try.pinned (OpenSpec.ofChange fnPopItemsWrong)

/-- 'laws.FnSortItems': WHATEVER THE INPUT: true; the input reads as it did. -/
def fnSortItemsSpec : ChangeSpec := { name := "fnSortItems", fn := fun _ => fun
  | [d] => { results := [.lit (.bool true)], args := [d] }
  | _ => none }
def fnSortItemsRow : OpenClaim := { program := "ytgijkfkfifjokaa", sum := "43821305564dc4e7e21f61b772f9bb63e293d9368b134017f09da8af88397621", func := "loop.example/lib-g01086/laws.FnSortItems", spec := "fnSortItems", unfollowed := true, recurses := true, apart := false }
def FnSortItemsSaid : Prop := fnSortItemsRow.holds Try.pinned (OpenSpec.ofChange fnSortItemsSpec)

/-- ITS FALSE NEIGHBOUR: 'it returns false'. Refute it at one input. -/
def fnSortItemsWrong : ChangeSpec := { name := "fnSortItems", fn := fun _ => fun
  | [d] => { results := [.lit (.bool false)], args := [d] }
  | _ => none }
def FnSortItemsWrongFalsely : Prop := fnSortItemsRow.holds Try.pinned (OpenSpec.ofChange fnSortItemsWrong)

/-- 'laws.FnSortItemKeys': WHATEVER THE INPUT: true; the input reads as it did. -/
def fnSortItemKeysSpec : ChangeSpec := { name := "fnSortItemKeys", fn := fun _ => fun
  | [d] => { results := [.lit (.bool true)], args := [d] }
  | _ => none }
def fnSortItemKeysRow : OpenClaim := { program := "ytgijkfkfifjokaa", sum := "43821305564dc4e7e21f61b772f9bb63e293d9368b134017f09da8af88397621", func := "loop.example/lib-g01086/laws.FnSortItemKeys", spec := "fnSortItemKeys", unfollowed := true, recurses := true, apart := false }
def FnSortItemKeysSaid : Prop := fnSortItemKeysRow.holds Try.pinned (OpenSpec.ofChange fnSortItemKeysSpec)

/-- ITS FALSE NEIGHBOUR: 'it returns false'. Refute it at one input. -/
def fnSortItemKeysWrong : ChangeSpec := { name := "fnSortItemKeys", fn := fun _ => fun
  | [d] => { results := [.lit (.bool false)], args := [d] }
  | _ => none }
def FnSortItemKeysWrongFalsely : Prop := fnSortItemKeysRow.holds Try.pinned (OpenSpec.ofChange fnSortItemKeysWrong)

/- THE SECOND FORM. 'bulk': how many values and letters a reading holds, each counted each time it is reached (what is shared counts as often as it is met; a slice's spare places count too). A statement '..UptoSaid' is the law's where the arguments, and the package variables that the reading takes, are together of bulk at most 1048576: NARROWER than '..Said'. Prove '..Said' where nothing that the law and all that it calls make is longer than what came in: it says more and counts as full. Else prove '..UptoSaid'. A law counts once. -/
mutual
def uptoBulk {H : Type} : DataW H → Nat
  | .lit (.string bytes) => bytes.length + 1
  | .lit _ => 1
  | .nil => 1
  | .ptr d => uptoBulk d + 1
  | .slice elems spare => uptoBulkAll elems + uptoBulkAll spare + 1
  | .agg parts => uptoBulkAll parts + 1
  | .iface _ d => uptoBulk d + 1
  | .map entries => uptoBulkEntries entries + 1
  | .held _ => 1
def uptoBulkAll {H : Type} : List (DataW H) → Nat
  | [] => 0
  | d :: r => uptoBulk d + uptoBulkAll r
def uptoBulkEntries {H : Type} : List (Lit × DataW H) → Nat
  | [] => 0
  | x :: r => uptoBulkEntry x + uptoBulkEntries r
def uptoBulkEntry {H : Type} : Lit × DataW H → Nat
  | (.string bytes, d) => bytes.length + uptoBulk d + 1
  | (_, d) => uptoBulk d + 1
 end
def uptoSmall : (H : Type) → List (DataW H) → Bool := fun _ ds => decide (uptoBulkAll ds ≤ 1048576)
def OpenSpec.upto (s : _root_.Go.ChangeSpec) : _root_.Go.OpenSpec := { _root_.Go.OpenSpec.ofChange s with cond := some uptoSmall }

/-- 'laws.FnOrderAnyInit', WHERE WHAT IT READS IS OF BULK AT MOST 1048576: true; the input reads as it did. -/
def fnOrderAnyInitUptoRow : OpenClaim := { program := "ytgijkfkfifjokaa", sum := "43821305564dc4e7e21f61b772f9bb63e293d9368b134017f09da8af88397621", func := "loop.example/lib-g01086/laws.FnOrderAnyInit", spec := "fnOrderAnyInit", unfollowed := true, recurses := true, apart := false, narrowed := true }
def FnOrderAnyInitUptoSaid : Prop := fnOrderAnyInitUptoRow.holds Try.pinned (OpenSpec.upto fnOrderAnyInitSpec)

/-- 'laws.FnOrderInit', WHERE WHAT IT READS IS OF BULK AT MOST 1048576: true; the input reads as it did. -/
def fnOrderInitUptoRow : OpenClaim := { program := "ytgijkfkfifjokaa", sum := "43821305564dc4e7e21f61b772f9bb63e293d9368b134017f09da8af88397621", func := "loop.example/lib-g01086/laws.FnOrderInit", spec := "fnOrderInit", unfollowed := true, recurses := true, apart := false, narrowed := true }
def FnOrderInitUptoSaid : Prop := fnOrderInitUptoRow.holds Try.pinned (OpenSpec.upto fnOrderInitSpec)

/-- 'laws.FnOrderAnySort', WHERE WHAT IT READS IS OF BULK AT MOST 1048576: true; the input reads as it did. -/
def fnOrderAnySortUptoRow : OpenClaim := { program := "ytgijkfkfifjokaa", sum := "43821305564dc4e7e21f61b772f9bb63e293d9368b134017f09da8af88397621", func := "loop.example/lib-g01086/laws.FnOrderAnySort", spec := "fnOrderAnySort", unfollowed := true, recurses := true, apart := false, narrowed := true }
def FnOrderAnySortUptoSaid : Prop := fnOrderAnySortUptoRow.holds Try.pinned (OpenSpec.upto fnOrderAnySortSpec)

/-- 'laws.FnOrderSorted', WHERE WHAT IT READS IS OF BULK AT MOST 1048576: true; the input reads as it did. -/
def fnOrderSortedUptoRow : OpenClaim := { program := "ytgijkfkfifjokaa", sum := "43821305564dc4e7e21f61b772f9bb63e293d9368b134017f09da8af88397621", func := "loop.example/lib-g01086/laws.FnOrderSorted", spec := "fnOrderSorted", unfollowed := true, recurses := true, apart := false, narrowed := true }
def FnOrderSortedUptoSaid : Prop := fnOrderSortedUptoRow.holds Try.pinned (OpenSpec.upto fnOrderSortedSpec)

/-- 'laws.FnOrderKeeps', WHERE WHAT IT READS IS OF BULK AT MOST 1048576: true; the input reads as it did. -/
def fnOrderKeepsUptoRow : OpenClaim := { program := "ytgijkfkfifjokaa", sum := "43821305564dc4e7e21f61b772f9bb63e293d9368b134017f09da8af88397621", func := "loop.example/lib-g01086/laws.FnOrderKeeps", spec := "fnOrderKeeps", unfollowed := true, recurses := true, apart := false, narrowed := true }
def FnOrderKeepsUptoSaid : Prop := fnOrderKeepsUptoRow.holds Try.pinned (OpenSpec.upto fnOrderKeepsSpec)

/-- 'laws.FnOrderRanks', WHERE WHAT IT READS IS OF BULK AT MOST 1048576: true; the input reads as it did. -/
def fnOrderRanksUptoRow : OpenClaim := { program := "ytgijkfkfifjokaa", sum := "43821305564dc4e7e21f61b772f9bb63e293d9368b134017f09da8af88397621", func := "loop.example/lib-g01086/laws.FnOrderRanks", spec := "fnOrderRanks", unfollowed := true, recurses := true, apart := false, narrowed := true }
def FnOrderRanksUptoSaid : Prop := fnOrderRanksUptoRow.holds Try.pinned (OpenSpec.upto fnOrderRanksSpec)

/-- 'laws.FnAnyPops', WHERE WHAT IT READS IS OF BULK AT MOST 1048576: true; the input reads as it did. -/
def fnAnyPopsUptoRow : OpenClaim := { program := "ytgijkfkfifjokaa", sum := "43821305564dc4e7e21f61b772f9bb63e293d9368b134017f09da8af88397621", func := "loop.example/lib-g01086/laws.FnAnyPops", spec := "fnAnyPops", unfollowed := true, recurses := true, apart := false, narrowed := true }
def FnAnyPopsUptoSaid : Prop := fnAnyPopsUptoRow.holds Try.pinned (OpenSpec.upto fnAnyPopsSpec)

/-- 'laws.FnPopAscending', WHERE WHAT IT READS IS OF BULK AT MOST 1048576: true; the input reads as it did. -/
def fnPopAscendingUptoRow : OpenClaim := { program := "ytgijkfkfifjokaa", sum := "43821305564dc4e7e21f61b772f9bb63e293d9368b134017f09da8af88397621", func := "loop.example/lib-g01086/laws.FnPopAscending", spec := "fnPopAscending", unfollowed := true, recurses := true, apart := false, narrowed := true }
def FnPopAscendingUptoSaid : Prop := fnPopAscendingUptoRow.holds Try.pinned (OpenSpec.upto fnPopAscendingSpec)

/-- 'laws.FnPopItems', WHERE WHAT IT READS IS OF BULK AT MOST 1048576: true; the input reads as it did. -/
def fnPopItemsUptoRow : OpenClaim := { program := "ytgijkfkfifjokaa", sum := "43821305564dc4e7e21f61b772f9bb63e293d9368b134017f09da8af88397621", func := "loop.example/lib-g01086/laws.FnPopItems", spec := "fnPopItems", unfollowed := true, recurses := true, apart := false, narrowed := true }
def FnPopItemsUptoSaid : Prop := fnPopItemsUptoRow.holds Try.pinned (OpenSpec.upto fnPopItemsSpec)

/-- 'laws.FnSortItems', WHERE WHAT IT READS IS OF BULK AT MOST 1048576: true; the input reads as it did. -/
def fnSortItemsUptoRow : OpenClaim := { program := "ytgijkfkfifjokaa", sum := "43821305564dc4e7e21f61b772f9bb63e293d9368b134017f09da8af88397621", func := "loop.example/lib-g01086/laws.FnSortItems", spec := "fnSortItems", unfollowed := true, recurses := true, apart := false, narrowed := true }
def FnSortItemsUptoSaid : Prop := fnSortItemsUptoRow.holds Try.pinned (OpenSpec.upto fnSortItemsSpec)

/-- 'laws.FnSortItemKeys', WHERE WHAT IT READS IS OF BULK AT MOST 1048576: true; the input reads as it did. -/
def fnSortItemKeysUptoRow : OpenClaim := { program := "ytgijkfkfifjokaa", sum := "43821305564dc4e7e21f61b772f9bb63e293d9368b134017f09da8af88397621", func := "loop.example/lib-g01086/laws.FnSortItemKeys", spec := "fnSortItemKeys", unfollowed := true, recurses := true, apart := false, narrowed := true }
def FnSortItemKeysUptoSaid : Prop := fnSortItemKeysUptoRow.holds Try.pinned (OpenSpec.upto fnSortItemKeysSpec)

end Rows
end Go.Proofs.Ytgijkfkfifjokaa
