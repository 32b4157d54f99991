/-
  No cell of these rows narrows 'for every input' (looked for: loops, veiled, ifaces, maps, wideKeys, modest, calm, conditions, laid).
  DERIVED. THE GIVEN ROWS OF THIS SEAT. 12 by the template 'for every input the law returns true; each argument reads behind the call as it read before'; 0 by the template 'total and deterministic' (their statements: YtpglibneflefgaaTotals.lean).
  GIVEN WITH THE SEED: the statements are not yours to turn. If you find one false, say at which input.
  Laid BY PROGRAM, IN A SANDBOX (cutbox-rows.mjs): the forced cells as the released guide's own fill.sh prints them over the translation 2f0b58a7c27d0c20… (all of the seat's roots in one cut). By AI agents, Wed Nov 11 2026. No macro, syntax, notation, axiom, sorry.
-/
import Derived.Test.YtpglibneflefgaaChecked
import GoSem.Claim
import GoSem.ClaimJoined
import GoSem.ClaimMapViews
import Derived.JoinedTies
import Derived.KernelRfl
namespace Go.Proofs.Ytpglibneflefgaa
/- THE CELL 'sum', in the pinned program and in every row, IS THE sha256 OF THE DUMP (.gsa) THAT YtpglibneflefgaaProg.lean LOADS. Nothing in Lean hashes anything: it is a label: what it is worth is what the hold of that sum in a sandbox is worth. -/
noncomputable def Try.pinned : Pinned := { name := "ytpglibneflefgaa", sum := "2f0b58a7c27d0c20d2b9fef874d559e2664070c5ba821118fa2b4c2679921e5c", checked := Try.checked }
namespace Rows
def none {H : Type} : Left H := { results := [], args := [] }

/-- 'laws.FnInitAsks': WHATEVER THE INPUT: true; the input reads as it did. -/
def fnInitAsksSpec : ChangeSpec := { name := "fnInitAsks", fn := fun _ => fun
  | [d] => { results := [.lit (.bool true)], args := [d] }
  | _ => none }
def fnInitAsksRow : OpenClaim := { program := "ytpglibneflefgaa", sum := "2f0b58a7c27d0c20d2b9fef874d559e2664070c5ba821118fa2b4c2679921e5c", func := "loop.example/lib-g01086/laws.FnInitAsks", spec := "fnInitAsks", unfollowed := true, recurses := true, apart := false }
def FnInitAsksSaid : Prop := fnInitAsksRow.holds Try.pinned (OpenSpec.ofChange fnInitAsksSpec)

/-- ITS FALSE NEIGHBOUR: 'it returns false'. Refute it at one input. -/
def fnInitAsksWrong : ChangeSpec := { name := "fnInitAsks", fn := fun _ => fun
  | [d] => { results := [.lit (.bool false)], args := [d] }
  | _ => none }
def FnInitAsksWrongFalsely : Prop := fnInitAsksRow.holds Try.pinned (OpenSpec.ofChange fnInitAsksWrong)

/-- 'laws.FnInitSwaps': WHATEVER THE INPUT: true; the input reads as it did. -/
def fnInitSwapsSpec : ChangeSpec := { name := "fnInitSwaps", fn := fun _ => fun
  | [d] => { results := [.lit (.bool true)], args := [d] }
  | _ => none }
def fnInitSwapsRow : OpenClaim := { program := "ytpglibneflefgaa", sum := "2f0b58a7c27d0c20d2b9fef874d559e2664070c5ba821118fa2b4c2679921e5c", func := "loop.example/lib-g01086/laws.FnInitSwaps", spec := "fnInitSwaps", unfollowed := true, recurses := true, apart := false }
def FnInitSwapsSaid : Prop := fnInitSwapsRow.holds Try.pinned (OpenSpec.ofChange fnInitSwapsSpec)

/-- ITS FALSE NEIGHBOUR: 'it returns false'. Refute it at one input. -/
def fnInitSwapsWrong : ChangeSpec := { name := "fnInitSwaps", fn := fun _ => fun
  | [d] => { results := [.lit (.bool false)], args := [d] }
  | _ => none }
def FnInitSwapsWrongFalsely : Prop := fnInitSwapsRow.holds Try.pinned (OpenSpec.ofChange fnInitSwapsWrong)

/-- 'laws.FnPushAsks': WHATEVER THE INPUT: true; the input reads as it did. -/
def fnPushAsksSpec : ChangeSpec := { name := "fnPushAsks", fn := fun _ => fun
  | [d1, d2] => { results := [.lit (.bool true)], args := [d1, d2] }
  | _ => none }
def fnPushAsksRow : OpenClaim := { program := "ytpglibneflefgaa", sum := "2f0b58a7c27d0c20d2b9fef874d559e2664070c5ba821118fa2b4c2679921e5c", func := "loop.example/lib-g01086/laws.FnPushAsks", spec := "fnPushAsks", unfollowed := true, recurses := true, apart := false }
def FnPushAsksSaid : Prop := fnPushAsksRow.holds Try.pinned (OpenSpec.ofChange fnPushAsksSpec)

/-- ITS FALSE NEIGHBOUR: 'it returns false'. Refute it at one input. -/
def fnPushAsksWrong : ChangeSpec := { name := "fnPushAsks", fn := fun _ => fun
  | [d1, d2] => { results := [.lit (.bool false)], args := [d1, d2] }
  | _ => none }
def FnPushAsksWrongFalsely : Prop := fnPushAsksRow.holds Try.pinned (OpenSpec.ofChange fnPushAsksWrong)

/-- 'laws.FnPushSwaps': WHATEVER THE INPUT: true; the input reads as it did. -/
def fnPushSwapsSpec : ChangeSpec := { name := "fnPushSwaps", fn := fun _ => fun
  | [d1, d2] => { results := [.lit (.bool true)], args := [d1, d2] }
  | _ => none }
def fnPushSwapsRow : OpenClaim := { program := "ytpglibneflefgaa", sum := "2f0b58a7c27d0c20d2b9fef874d559e2664070c5ba821118fa2b4c2679921e5c", func := "loop.example/lib-g01086/laws.FnPushSwaps", spec := "fnPushSwaps", unfollowed := true, recurses := true, apart := false }
def FnPushSwapsSaid : Prop := fnPushSwapsRow.holds Try.pinned (OpenSpec.ofChange fnPushSwapsSpec)

/-- ITS FALSE NEIGHBOUR: 'it returns false'. Refute it at one input. -/
def fnPushSwapsWrong : ChangeSpec := { name := "fnPushSwaps", fn := fun _ => fun
  | [d1, d2] => { results := [.lit (.bool false)], args := [d1, d2] }
  | _ => none }
def FnPushSwapsWrongFalsely : Prop := fnPushSwapsRow.holds Try.pinned (OpenSpec.ofChange fnPushSwapsWrong)

/-- 'laws.FnInitCalls': WHATEVER THE INPUT: true; the input reads as it did. -/
def fnInitCallsSpec : ChangeSpec := { name := "fnInitCalls", fn := fun _ => fun
  | [d] => { results := [.lit (.bool true)], args := [d] }
  | _ => none }
def fnInitCallsRow : OpenClaim := { program := "ytpglibneflefgaa", sum := "2f0b58a7c27d0c20d2b9fef874d559e2664070c5ba821118fa2b4c2679921e5c", func := "loop.example/lib-g01086/laws.FnInitCalls", spec := "fnInitCalls", unfollowed := true, recurses := true, apart := false }
def FnInitCallsSaid : Prop := fnInitCallsRow.holds Try.pinned (OpenSpec.ofChange fnInitCallsSpec)

/-- ITS FALSE NEIGHBOUR: 'it returns false'. Refute it at one input. -/
def fnInitCallsWrong : ChangeSpec := { name := "fnInitCalls", fn := fun _ => fun
  | [d] => { results := [.lit (.bool false)], args := [d] }
  | _ => none }
def FnInitCallsWrongFalsely : Prop := fnInitCallsRow.holds Try.pinned (OpenSpec.ofChange fnInitCallsWrong)

/-- 'laws.FnPushCalls': WHATEVER THE INPUT: true; the input reads as it did. -/
def fnPushCallsSpec : ChangeSpec := { name := "fnPushCalls", fn := fun _ => fun
  | [d1, d2] => { results := [.lit (.bool true)], args := [d1, d2] }
  | _ => none }
def fnPushCallsRow : OpenClaim := { program := "ytpglibneflefgaa", sum := "2f0b58a7c27d0c20d2b9fef874d559e2664070c5ba821118fa2b4c2679921e5c", func := "loop.example/lib-g01086/laws.FnPushCalls", spec := "fnPushCalls", unfollowed := true, recurses := true, apart := false }
def FnPushCallsSaid : Prop := fnPushCallsRow.holds Try.pinned (OpenSpec.ofChange fnPushCallsSpec)

/-- ITS FALSE NEIGHBOUR: 'it returns false'. Refute it at one input. -/
def fnPushCallsWrong : ChangeSpec := { name := "fnPushCalls", fn := fun _ => fun
  | [d1, d2] => { results := [.lit (.bool false)], args := [d1, d2] }
  | _ => none }
def FnPushCallsWrongFalsely : Prop := fnPushCallsRow.holds Try.pinned (OpenSpec.ofChange fnPushCallsWrong)

/-- 'laws.FnPushKeeps': WHATEVER THE INPUT: true; the input reads as it did. -/
def fnPushKeepsSpec : ChangeSpec := { name := "fnPushKeeps", fn := fun _ => fun
  | [d1, d2] => { results := [.lit (.bool true)], args := [d1, d2] }
  | _ => none }
def fnPushKeepsRow : OpenClaim := { program := "ytpglibneflefgaa", sum := "2f0b58a7c27d0c20d2b9fef874d559e2664070c5ba821118fa2b4c2679921e5c", func := "loop.example/lib-g01086/laws.FnPushKeeps", spec := "fnPushKeeps", unfollowed := true, recurses := true, apart := false }
def FnPushKeepsSaid : Prop := fnPushKeepsRow.holds Try.pinned (OpenSpec.ofChange fnPushKeepsSpec)

/-- ITS FALSE NEIGHBOUR: 'it returns false'. Refute it at one input. -/
def fnPushKeepsWrong : ChangeSpec := { name := "fnPushKeeps", fn := fun _ => fun
  | [d1, d2] => { results := [.lit (.bool false)], args := [d1, d2] }
  | _ => none }
def FnPushKeepsWrongFalsely : Prop := fnPushKeepsRow.holds Try.pinned (OpenSpec.ofChange fnPushKeepsWrong)

/-- 'laws.FnPopAsks': WHATEVER THE INPUT: true; the input reads as it did. -/
def fnPopAsksSpec : ChangeSpec := { name := "fnPopAsks", fn := fun _ => fun
  | [d] => { results := [.lit (.bool true)], args := [d] }
  | _ => none }
def fnPopAsksRow : OpenClaim := { program := "ytpglibneflefgaa", sum := "2f0b58a7c27d0c20d2b9fef874d559e2664070c5ba821118fa2b4c2679921e5c", func := "loop.example/lib-g01086/laws.FnPopAsks", spec := "fnPopAsks", unfollowed := true, recurses := true, apart := false }
def FnPopAsksSaid : Prop := fnPopAsksRow.holds Try.pinned (OpenSpec.ofChange fnPopAsksSpec)

/-- ITS FALSE NEIGHBOUR: 'it returns false'. Refute it at one input. -/
def fnPopAsksWrong : ChangeSpec := { name := "fnPopAsks", fn := fun _ => fun
  | [d] => { results := [.lit (.bool false)], args := [d] }
  | _ => none }
def FnPopAsksWrongFalsely : Prop := fnPopAsksRow.holds Try.pinned (OpenSpec.ofChange fnPopAsksWrong)

/-- 'laws.FnPopSwaps': WHATEVER THE INPUT: true; the input reads as it did. -/
def fnPopSwapsSpec : ChangeSpec := { name := "fnPopSwaps", fn := fun _ => fun
  | [d] => { results := [.lit (.bool true)], args := [d] }
  | _ => none }
def fnPopSwapsRow : OpenClaim := { program := "ytpglibneflefgaa", sum := "2f0b58a7c27d0c20d2b9fef874d559e2664070c5ba821118fa2b4c2679921e5c", func := "loop.example/lib-g01086/laws.FnPopSwaps", spec := "fnPopSwaps", unfollowed := true, recurses := true, apart := false }
def FnPopSwapsSaid : Prop := fnPopSwapsRow.holds Try.pinned (OpenSpec.ofChange fnPopSwapsSpec)

/-- ITS FALSE NEIGHBOUR: 'it returns false'. Refute it at one input. -/
def fnPopSwapsWrong : ChangeSpec := { name := "fnPopSwaps", fn := fun _ => fun
  | [d] => { results := [.lit (.bool false)], args := [d] }
  | _ => none }
def FnPopSwapsWrongFalsely : Prop := fnPopSwapsRow.holds Try.pinned (OpenSpec.ofChange fnPopSwapsWrong)

/-- 'laws.FnPopCalls': WHATEVER THE INPUT: true; the input reads as it did. -/
def fnPopCallsSpec : ChangeSpec := { name := "fnPopCalls", fn := fun _ => fun
  | [d] => { results := [.lit (.bool true)], args := [d] }
  | _ => none }
def fnPopCallsRow : OpenClaim := { program := "ytpglibneflefgaa", sum := "2f0b58a7c27d0c20d2b9fef874d559e2664070c5ba821118fa2b4c2679921e5c", func := "loop.example/lib-g01086/laws.FnPopCalls", spec := "fnPopCalls", unfollowed := true, recurses := true, apart := false }
def FnPopCallsSaid : Prop := fnPopCallsRow.holds Try.pinned (OpenSpec.ofChange fnPopCallsSpec)

/-- ITS FALSE NEIGHBOUR: 'it returns false'. Refute it at one input. -/
def fnPopCallsWrong : ChangeSpec := { name := "fnPopCalls", fn := fun _ => fun
  | [d] => { results := [.lit (.bool false)], args := [d] }
  | _ => none }
def FnPopCallsWrongFalsely : Prop := fnPopCallsRow.holds Try.pinned (OpenSpec.ofChange fnPopCallsWrong)

/-- 'laws.FnPopKeeps': WHATEVER THE INPUT: true; the input reads as it did. -/
def fnPopKeepsSpec : ChangeSpec := { name := "fnPopKeeps", fn := fun _ => fun
  | [d] => { results := [.lit (.bool true)], args := [d] }
  | _ => none }
def fnPopKeepsRow : OpenClaim := { program := "ytpglibneflefgaa", sum := "2f0b58a7c27d0c20d2b9fef874d559e2664070c5ba821118fa2b4c2679921e5c", func := "loop.example/lib-g01086/laws.FnPopKeeps", spec := "fnPopKeeps", unfollowed := true, recurses := true, apart := false }
def FnPopKeepsSaid : Prop := fnPopKeepsRow.holds Try.pinned (OpenSpec.ofChange fnPopKeepsSpec)

/-- ITS FALSE NEIGHBOUR: 'it returns false'. Refute it at one input. -/
def fnPopKeepsWrong : ChangeSpec := { name := "fnPopKeeps", fn := fun _ => fun
  | [d] => { results := [.lit (.bool false)], args := [d] }
  | _ => none }
def FnPopKeepsWrongFalsely : Prop := fnPopKeepsRow.holds Try.pinned (OpenSpec.ofChange fnPopKeepsWrong)

/-- 'laws.FnInitKeeps': WHATEVER THE INPUT: true; the input reads as it did. -/
def fnInitKeepsSpec : ChangeSpec := { name := "fnInitKeeps", fn := fun _ => fun
  | [d] => { results := [.lit (.bool true)], args := [d] }
  | _ => none }
def fnInitKeepsRow : OpenClaim := { program := "ytpglibneflefgaa", sum := "2f0b58a7c27d0c20d2b9fef874d559e2664070c5ba821118fa2b4c2679921e5c", func := "loop.example/lib-g01086/laws.FnInitKeeps", spec := "fnInitKeeps", unfollowed := true, recurses := true, apart := false }
def FnInitKeepsSaid : Prop := fnInitKeepsRow.holds Try.pinned (OpenSpec.ofChange fnInitKeepsSpec)

/-- ITS FALSE NEIGHBOUR: 'it returns false'. Refute it at one input. -/
def fnInitKeepsWrong : ChangeSpec := { name := "fnInitKeeps", fn := fun _ => fun
  | [d] => { results := [.lit (.bool false)], args := [d] }
  | _ => none }
def FnInitKeepsWrongFalsely : Prop := fnInitKeepsRow.holds Try.pinned (OpenSpec.ofChange fnInitKeepsWrong)

/- THE SECOND FORM. 'bulk': how many values and letters a reading holds, each counted each time it is reached (what is shared counts as often as it is met; a slice's spare places count too). A statement '..UptoSaid' is the law's where the arguments, and the package variables that the reading takes, are together of bulk at most 1048576: NARROWER than '..Said'. Prove '..Said' where nothing that the law and all that it calls make is longer than what came in: it says more and counts as full. Else prove '..UptoSaid'. A law counts once. -/
mutual
def uptoBulk {H : Type} : DataW H → Nat
  | .lit (.string bytes) => bytes.length + 1
  | .lit _ => 1
  | .nil => 1
  | .ptr d => uptoBulk d + 1
  | .slice elems spare => uptoBulkAll elems + uptoBulkAll spare + 1
  | .agg parts => uptoBulkAll parts + 1
  | .iface _ d => uptoBulk d + 1
  | .map entries => uptoBulkEntries entries + 1
  | .held _ => 1
def uptoBulkAll {H : Type} : List (DataW H) → Nat
  | [] => 0
  | d :: r => uptoBulk d + uptoBulkAll r
def uptoBulkEntries {H : Type} : List (Lit × DataW H) → Nat
  | [] => 0
  | x :: r => uptoBulkEntry x + uptoBulkEntries r
def uptoBulkEntry {H : Type} : Lit × DataW H → Nat
  | (.string bytes, d) => bytes.length + uptoBulk d + 1
  | (_, d) => uptoBulk d + 1
 end
def uptoSmall : (H : Type) → List (DataW H) → Bool := fun _ ds => decide (uptoBulkAll ds ≤ 1048576)
def OpenSpec.upto (s : _root_.Go.ChangeSpec) : _root_.Go.OpenSpec := { _root_.Go.OpenSpec.ofChange s with cond := some uptoSmall }

/-- 'laws.FnInitAsks', WHERE WHAT IT READS IS OF BULK AT MOST 1048576: true; the input reads as it did. -/
def fnInitAsksUptoRow : OpenClaim := { program := "ytpglibneflefgaa", sum := "2f0b58a7c27d0c20d2b9fef874d559e2664070c5ba821118fa2b4c2679921e5c", func := "loop.example/lib-g01086/laws.FnInitAsks", spec := "fnInitAsks", unfollowed := true, recurses := true, apart := false, narrowed := true }
def FnInitAsksUptoSaid : Prop := fnInitAsksUptoRow.holds Try.pinned (OpenSpec.upto fnInitAsksSpec)

/-- 'laws.FnInitSwaps', WHERE WHAT IT READS IS OF BULK AT MOST 1048576: true; the input reads as it did. -/
def fnInitSwapsUptoRow : OpenClaim := { program := "ytpglibneflefgaa", sum := "2f0b58a7c27d0c20d2b9fef874d559e2664070c5ba821118fa2b4c2679921e5c", func := "loop.example/lib-g01086/laws.FnInitSwaps", spec := "fnInitSwaps", unfollowed := true, recurses := true, apart := false, narrowed := true }
def FnInitSwapsUptoSaid : Prop := fnInitSwapsUptoRow.holds Try.pinned (OpenSpec.upto fnInitSwapsSpec)

/-- 'laws.FnPushAsks', WHERE WHAT IT READS IS OF BULK AT MOST 1048576: true; the input reads as it did. -/
def fnPushAsksUptoRow : OpenClaim := { program := "ytpglibneflefgaa", sum := "2f0b58a7c27d0c20d2b9fef874d559e2664070c5ba821118fa2b4c2679921e5c", func := "loop.example/lib-g01086/laws.FnPushAsks", spec := "fnPushAsks", unfollowed := true, recurses := true, apart := false, narrowed := true }
def FnPushAsksUptoSaid : Prop := fnPushAsksUptoRow.holds Try.pinned (OpenSpec.upto fnPushAsksSpec)

/-- 'laws.FnPushSwaps', WHERE WHAT IT READS IS OF BULK AT MOST 1048576: true; the input reads as it did. -/
def fnPushSwapsUptoRow : OpenClaim := { program := "ytpglibneflefgaa", sum := "2f0b58a7c27d0c20d2b9fef874d559e2664070c5ba821118fa2b4c2679921e5c", func := "loop.example/lib-g01086/laws.FnPushSwaps", spec := "fnPushSwaps", unfollowed := true, recurses := true, apart := false, narrowed := true }
def FnPushSwapsUptoSaid : Prop := fnPushSwapsUptoRow.holds Try.pinned (OpenSpec.upto fnPushSwapsSpec)

/-- 'laws.FnInitCalls', WHERE WHAT IT READS IS OF BULK AT MOST 1048576: true; the input reads as it did. -/
def fnInitCallsUptoRow : OpenClaim := { program := "ytpglibneflefgaa", sum := "2f0b58a7c27d0c20d2b9fef874d559e2664070c5ba821118fa2b4c2679921e5c", func := "loop.example/lib-g01086/laws.FnInitCalls", spec := "fnInitCalls", unfollowed := true, recurses := true, apart := false, narrowed := true }
def FnInitCallsUptoSaid : Prop := fnInitCallsUptoRow.holds Try.pinned (OpenSpec.upto fnInitCallsSpec)

/-- 'laws.FnPushCalls', WHERE WHAT IT READS IS OF BULK AT MOST 1048576: true; the input reads as it did. -/
def fnPushCallsUptoRow : OpenClaim := { program := "ytpglibneflefgaa", sum := "2f0b58a7c27d0c20d2b9fef874d559e2664070c5ba821118fa2b4c2679921e5c", func := "loop.example/lib-g01086/laws.FnPushCalls", spec := "fnPushCalls", unfollowed := true, recurses := true, apart := false, narrowed := true }
def FnPushCallsUptoSaid : Prop := fnPushCallsUptoRow.holds Try.pinned (OpenSpec.upto fnPushCallsSpec)

/-- 'laws.FnPushKeeps', WHERE WHAT IT READS IS OF BULK AT MOST 1048576: true; the input reads as it did. -/
def fnPushKeepsUptoRow : OpenClaim := { program := "ytpglibneflefgaa", sum := "2f0b58a7c27d0c20d2b9fef874d559e2664070c5ba821118fa2b4c2679921e5c", func := "loop.example/lib-g01086/laws.FnPushKeeps", spec := "fnPushKeeps", unfollowed := true, recurses := true, apart := false, narrowed := true }
def FnPushKeepsUptoSaid : Prop := fnPushKeepsUptoRow.holds Try.pinned (OpenSpec.upto fnPushKeepsSpec)

/-- 'laws.FnPopAsks', WHERE WHAT IT READS IS OF BULK AT MOST 1048576: true; the input reads as it did. -/
def fnPopAsksUptoRow : OpenClaim := { program := "ytpglibneflefgaa", sum := "2f0b58a7c27d0c20d2b9fef874d559e2664070c5ba821118fa2b4c2679921e5c", func := "loop.example/lib-g01086/laws.FnPopAsks", spec := "fnPopAsks", unfollowed := true, recurses := true, apart := false, narrowed := true }
def FnPopAsksUptoSaid : Prop := fnPopAsksUptoRow.holds Try.pinned (OpenSpec.upto fnPopAsksSpec)

/-- 'laws.FnPopSwaps', WHERE WHAT IT READS IS OF BULK AT MOST 1048576: true; the input reads as it did. -/
def fnPopSwapsUptoRow : OpenClaim := { program := "ytpglibneflefgaa", sum := "2f0b58a7c27d0c20d2b9fef874d559e2664070c5ba821118fa2b4c2679921e5c", func := "loop.example/lib-g01086/laws.FnPopSwaps", spec := "fnPopSwaps", unfollowed := true, recurses := true, apart := false, narrowed := true }
def FnPopSwapsUptoSaid : Prop := fnPopSwapsUptoRow.holds Try.pinned (OpenSpec.upto fnPopSwapsSpec)

/-- 'laws.FnPopCalls', WHERE WHAT IT READS IS OF BULK AT MOST 1048576: true; the input reads as it did. -/
def fnPopCallsUptoRow : OpenClaim := { program := "ytpglibneflefgaa", sum := "2f0b58a7c27d0c20d2b9fef874d559e2664070c5ba821118fa2b4c2679921e5c", func := "loop.example/lib-g01086/laws.FnPopCalls", spec := "fnPopCalls", unfollowed := true, recurses := true, apart := false, narrowed := true }
def FnPopCallsUptoSaid : Prop := fnPopCallsUptoRow.holds Try.pinned (OpenSpec.upto fnPopCallsSpec)

/-- 'laws.FnPopKeeps', WHERE WHAT IT READS IS OF BULK AT MOST 1048576: true; the input reads as it did. -/
def fnPopKeepsUptoRow : OpenClaim := { program := "ytpglibneflefgaa", sum := "2f0b58a7c27d0c20d2b9fef874d559e2664070c5ba821118fa2b4c2679921e5c", func := "loop.example/lib-g01086/laws.FnPopKeeps", spec := "fnPopKeeps", unfollowed := true, recurses := true, apart := false, narrowed := true }
def FnPopKeepsUptoSaid : Prop := fnPopKeepsUptoRow.holds Try.pinned (OpenSpec.upto fnPopKeepsSpec)

/-- 'laws.FnInitKeeps', WHERE WHAT IT READS IS OF BULK AT MOST 1048576: true; the input reads as it did. -/
def fnInitKeepsUptoRow : OpenClaim := { program := "ytpglibneflefgaa", sum := "2f0b58a7c27d0c20d2b9fef874d559e2664070c5ba821118fa2b4c2679921e5c", func := "loop.example/lib-g01086/laws.FnInitKeeps", spec := "fnInitKeeps", unfollowed := true, recurses := true, apart := false, narrowed := true }
def FnInitKeepsUptoSaid : Prop := fnInitKeepsUptoRow.holds Try.pinned (OpenSpec.upto fnInitKeepsSpec)

end Rows
end Go.Proofs.Ytpglibneflefgaa
