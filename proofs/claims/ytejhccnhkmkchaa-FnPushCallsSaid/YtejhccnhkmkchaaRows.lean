/-
  No cell of these rows narrows 'for every input' (looked for: loops, veiled, ifaces, maps, wideKeys, modest, calm, conditions, laid).
  DERIVED. THE GIVEN ROWS OF THIS SEAT. 5 by the template 'for every input the law returns true; each argument reads behind the call as it read before'; 0 by the template 'total and deterministic' (their statements: YtejhccnhkmkchaaTotals.lean).
  GIVEN WITH THE SEED: the statements are not yours to turn. If you find one false, say at which input.
  Laid BY PROGRAM, IN A SANDBOX (cutbox-rows.mjs): the forced cells as the released guide's own fill.sh prints them over the translation c0bd93df4865171f… (all of the seat's roots in one cut). By AI agents, Wed Nov 11 2026. No macro, syntax, notation, axiom, sorry.
-/
import Derived.Test.YtejhccnhkmkchaaChecked
import GoSem.Claim
import GoSem.ClaimJoined
import GoSem.ClaimMapViews
import Derived.JoinedTies
import Derived.KernelRfl
namespace Go.Proofs.Ytejhccnhkmkchaa
/- THE CELL 'sum', in the pinned program and in every row, IS THE sha256 OF THE DUMP (.gsa) THAT YtejhccnhkmkchaaProg.lean LOADS. Nothing in Lean hashes anything: it is a label: what it is worth is what the hold of that sum in a sandbox is worth. -/
noncomputable def Try.pinned : Pinned := { name := "ytejhccnhkmkchaa", sum := "c0bd93df4865171fd03bf66b85e87d998d3adb1722fcb77a20e7e1acd9a0e19c", checked := Try.checked }
namespace Rows
def none {H : Type} : Left H := { results := [], args := [] }

/-- 'laws.FnInitSwaps': WHATEVER THE INPUT: true; the input reads as it did. -/
def fnInitSwapsSpec : ChangeSpec := { name := "fnInitSwaps", fn := fun _ => fun
  | [d] => { results := [.lit (.bool true)], args := [d] }
  | _ => none }
def fnInitSwapsRow : OpenClaim := { program := "ytejhccnhkmkchaa", sum := "c0bd93df4865171fd03bf66b85e87d998d3adb1722fcb77a20e7e1acd9a0e19c", func := "loop.example/lib-g01086/laws.FnInitSwaps", spec := "fnInitSwaps", unfollowed := true, recurses := true, apart := false }
def FnInitSwapsSaid : Prop := fnInitSwapsRow.holds Try.pinned (OpenSpec.ofChange fnInitSwapsSpec)

/-- ITS FALSE NEIGHBOUR: 'it returns false'. Refute it at one input. -/
def fnInitSwapsWrong : ChangeSpec := { name := "fnInitSwaps", fn := fun _ => fun
  | [d] => { results := [.lit (.bool false)], args := [d] }
  | _ => none }
def FnInitSwapsWrongFalsely : Prop := fnInitSwapsRow.holds Try.pinned (OpenSpec.ofChange fnInitSwapsWrong)

/-- 'laws.FnInitCalls': WHATEVER THE INPUT: true; the input reads as it did. -/
def fnInitCallsSpec : ChangeSpec := { name := "fnInitCalls", fn := fun _ => fun
  | [d] => { results := [.lit (.bool true)], args := [d] }
  | _ => none }
def fnInitCallsRow : OpenClaim := { program := "ytejhccnhkmkchaa", sum := "c0bd93df4865171fd03bf66b85e87d998d3adb1722fcb77a20e7e1acd9a0e19c", func := "loop.example/lib-g01086/laws.FnInitCalls", spec := "fnInitCalls", unfollowed := true, recurses := true, apart := false }
def FnInitCallsSaid : Prop := fnInitCallsRow.holds Try.pinned (OpenSpec.ofChange fnInitCallsSpec)

/-- ITS FALSE NEIGHBOUR: 'it returns false'. Refute it at one input. -/
def fnInitCallsWrong : ChangeSpec := { name := "fnInitCalls", fn := fun _ => fun
  | [d] => { results := [.lit (.bool false)], args := [d] }
  | _ => none }
def FnInitCallsWrongFalsely : Prop := fnInitCallsRow.holds Try.pinned (OpenSpec.ofChange fnInitCallsWrong)

/-- 'laws.FnPushCalls': WHATEVER THE INPUT: true; the input reads as it did. -/
def fnPushCallsSpec : ChangeSpec := { name := "fnPushCalls", fn := fun _ => fun
  | [d1, d2] => { results := [.lit (.bool true)], args := [d1, d2] }
  | _ => none }
def fnPushCallsRow : OpenClaim := { program := "ytejhccnhkmkchaa", sum := "c0bd93df4865171fd03bf66b85e87d998d3adb1722fcb77a20e7e1acd9a0e19c", func := "loop.example/lib-g01086/laws.FnPushCalls", spec := "fnPushCalls", unfollowed := true, recurses := true, apart := false }
def FnPushCallsSaid : Prop := fnPushCallsRow.holds Try.pinned (OpenSpec.ofChange fnPushCallsSpec)

/-- ITS FALSE NEIGHBOUR: 'it returns false'. Refute it at one input. -/
def fnPushCallsWrong : ChangeSpec := { name := "fnPushCalls", fn := fun _ => fun
  | [d1, d2] => { results := [.lit (.bool false)], args := [d1, d2] }
  | _ => none }
def FnPushCallsWrongFalsely : Prop := fnPushCallsRow.holds Try.pinned (OpenSpec.ofChange fnPushCallsWrong)

/-- 'laws.FnPushKeeps': WHATEVER THE INPUT: true; the input reads as it did. -/
def fnPushKeepsSpec : ChangeSpec := { name := "fnPushKeeps", fn := fun _ => fun
  | [d1, d2] => { results := [.lit (.bool true)], args := [d1, d2] }
  | _ => none }
def fnPushKeepsRow : OpenClaim := { program := "ytejhccnhkmkchaa", sum := "c0bd93df4865171fd03bf66b85e87d998d3adb1722fcb77a20e7e1acd9a0e19c", func := "loop.example/lib-g01086/laws.FnPushKeeps", spec := "fnPushKeeps", unfollowed := true, recurses := true, apart := false }
def FnPushKeepsSaid : Prop := fnPushKeepsRow.holds Try.pinned (OpenSpec.ofChange fnPushKeepsSpec)

/-- ITS FALSE NEIGHBOUR: 'it returns false'. Refute it at one input. -/
def fnPushKeepsWrong : ChangeSpec := { name := "fnPushKeeps", fn := fun _ => fun
  | [d1, d2] => { results := [.lit (.bool false)], args := [d1, d2] }
  | _ => none }
def FnPushKeepsWrongFalsely : Prop := fnPushKeepsRow.holds Try.pinned (OpenSpec.ofChange fnPushKeepsWrong)

/-- 'laws.FnPopCalls': WHATEVER THE INPUT: true; the input reads as it did. -/
def fnPopCallsSpec : ChangeSpec := { name := "fnPopCalls", fn := fun _ => fun
  | [d] => { results := [.lit (.bool true)], args := [d] }
  | _ => none }
def fnPopCallsRow : OpenClaim := { program := "ytejhccnhkmkchaa", sum := "c0bd93df4865171fd03bf66b85e87d998d3adb1722fcb77a20e7e1acd9a0e19c", func := "loop.example/lib-g01086/laws.FnPopCalls", spec := "fnPopCalls", unfollowed := true, recurses := true, apart := false }
def FnPopCallsSaid : Prop := fnPopCallsRow.holds Try.pinned (OpenSpec.ofChange fnPopCallsSpec)

/-- ITS FALSE NEIGHBOUR: 'it returns false'. Refute it at one input. -/
def fnPopCallsWrong : ChangeSpec := { name := "fnPopCalls", fn := fun _ => fun
  | [d] => { results := [.lit (.bool false)], args := [d] }
  | _ => none }
def FnPopCallsWrongFalsely : Prop := fnPopCallsRow.holds Try.pinned (OpenSpec.ofChange fnPopCallsWrong)

/- THE SECOND FORM. 'bulk': how many values and letters a reading holds, each counted each time it is reached (what is shared counts as often as it is met; a slice's spare places count too). A statement '..UptoSaid' is the law's where the arguments, and the package variables that the reading takes, are together of bulk at most 1048576: NARROWER than '..Said'. Prove '..Said' where nothing that the law and all that it calls make is longer than what came in: it says more and counts as full. Else prove '..UptoSaid'. A law counts once. -/
mutual
def uptoBulk {H : Type} : DataW H → Nat
  | .lit (.string bytes) => bytes.length + 1
  | .lit _ => 1
  | .nil => 1
  | .ptr d => uptoBulk d + 1
  | .slice elems spare => uptoBulkAll elems + uptoBulkAll spare + 1
  | .agg parts => uptoBulkAll parts + 1
  | .iface _ d => uptoBulk d + 1
  | .map entries => uptoBulkEntries entries + 1
  | .held _ => 1
def uptoBulkAll {H : Type} : List (DataW H) → Nat
  | [] => 0
  | d :: r => uptoBulk d + uptoBulkAll r
def uptoBulkEntries {H : Type} : List (Lit × DataW H) → Nat
  | [] => 0
  | x :: r => uptoBulkEntry x + uptoBulkEntries r
def uptoBulkEntry {H : Type} : Lit × DataW H → Nat
  | (.string bytes, d) => bytes.length + uptoBulk d + 1
  | (_, d) => uptoBulk d + 1
 end
def uptoSmall : (H : Type) → List (DataW H) → Bool := fun _ ds => decide (uptoBulkAll ds ≤ 1048576)
def OpenSpec.upto (s : _root_.Go.ChangeSpec) : _root_.Go.OpenSpec := { _root_.Go.OpenSpec.ofChange s with cond := some uptoSmall }

/-- 'laws.FnInitSwaps', WHERE WHAT IT READS IS OF BULK AT MOST 1048576: true; the input reads as it did. -/
def fnInitSwapsUptoRow : OpenClaim := { program := "ytejhccnhkmkchaa", sum := "c0bd93df4865171fd03bf66b85e87d998d3adb1722fcb77a20e7e1acd9a0e19c", func := "loop.example/lib-g01086/laws.FnInitSwaps", spec := "fnInitSwaps", unfollowed := true, recurses := true, apart := false, narrowed := true }
def FnInitSwapsUptoSaid : Prop := fnInitSwapsUptoRow.holds Try.pinned (OpenSpec.upto fnInitSwapsSpec)

/-- 'laws.FnInitCalls', WHERE WHAT IT READS IS OF BULK AT MOST 1048576: true; the input reads as it did. -/
def fnInitCallsUptoRow : OpenClaim := { program := "ytejhccnhkmkchaa", sum := "c0bd93df4865171fd03bf66b85e87d998d3adb1722fcb77a20e7e1acd9a0e19c", func := "loop.example/lib-g01086/laws.FnInitCalls", spec := "fnInitCalls", unfollowed := true, recurses := true, apart := false, narrowed := true }
def FnInitCallsUptoSaid : Prop := fnInitCallsUptoRow.holds Try.pinned (OpenSpec.upto fnInitCallsSpec)

/-- 'laws.FnPushCalls', WHERE WHAT IT READS IS OF BULK AT MOST 1048576: true; the input reads as it did. -/
def fnPushCallsUptoRow : OpenClaim := { program := "ytejhccnhkmkchaa", sum := "c0bd93df4865171fd03bf66b85e87d998d3adb1722fcb77a20e7e1acd9a0e19c", func := "loop.example/lib-g01086/laws.FnPushCalls", spec := "fnPushCalls", unfollowed := true, recurses := true, apart := false, narrowed := true }
def FnPushCallsUptoSaid : Prop := fnPushCallsUptoRow.holds Try.pinned (OpenSpec.upto fnPushCallsSpec)

/-- 'laws.FnPushKeeps', WHERE WHAT IT READS IS OF BULK AT MOST 1048576: true; the input reads as it did. -/
def fnPushKeepsUptoRow : OpenClaim := { program := "ytejhccnhkmkchaa", sum := "c0bd93df4865171fd03bf66b85e87d998d3adb1722fcb77a20e7e1acd9a0e19c", func := "loop.example/lib-g01086/laws.FnPushKeeps", spec := "fnPushKeeps", unfollowed := true, recurses := true, apart := false, narrowed := true }
def FnPushKeepsUptoSaid : Prop := fnPushKeepsUptoRow.holds Try.pinned (OpenSpec.upto fnPushKeepsSpec)

/-- 'laws.FnPopCalls', WHERE WHAT IT READS IS OF BULK AT MOST 1048576: true; the input reads as it did. -/
def fnPopCallsUptoRow : OpenClaim := { program := "ytejhccnhkmkchaa", sum := "c0bd93df4865171fd03bf66b85e87d998d3adb1722fcb77a20e7e1acd9a0e19c", func := "loop.example/lib-g01086/laws.FnPopCalls", spec := "fnPopCalls", unfollowed := true, recurses := true, apart := false, narrowed := true }
def FnPopCallsUptoSaid : Prop := fnPopCallsUptoRow.holds Try.pinned (OpenSpec.upto fnPopCallsSpec)

end Rows
end Go.Proofs.Ytejhccnhkmkchaa
