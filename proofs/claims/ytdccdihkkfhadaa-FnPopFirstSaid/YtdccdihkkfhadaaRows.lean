/-
  No cell of these rows narrows 'for every input' (looked for: loops, veiled, ifaces, maps, wideKeys, modest, calm, conditions, laid).
  DERIVED. THE GIVEN ROWS OF THIS SEAT. 12 by the template 'for every input the law returns true; each argument reads behind the call as it read before'; 0 by the template 'total and deterministic' (their statements: YtdccdihkkfhadaaTotals.lean).
  GIVEN WITH THE SEED: the statements are not yours to turn. If you find one false, say at which input.
  Laid BY PROGRAM, IN A SANDBOX (cutbox-rows.mjs): the forced cells as the released guide's own fill.sh prints them over the translation f43ae0ff28c4ab97… (all of the seat's roots in one cut). By AI agents, Wed Nov 11 2026. No macro, syntax, notation, axiom, sorry.
-/
import Derived.Test.YtdccdihkkfhadaaChecked
import GoSem.Claim
import GoSem.ClaimJoined
import GoSem.ClaimMapViews
import Derived.JoinedTies
import Derived.KernelRfl
namespace Go.Proofs.Ytdccdihkkfhadaa
/- THE CELL 'sum', in the pinned program and in every row, IS THE sha256 OF THE DUMP (.gsa) THAT YtdccdihkkfhadaaProg.lean LOADS. Nothing in Lean hashes anything: it is a label: what it is worth is what the hold of that sum in a sandbox is worth. -/
noncomputable def Try.pinned : Pinned := { name := "ytdccdihkkfhadaa", sum := "f43ae0ff28c4ab9761ad54423a4acf95de774a54a758bc16eb9747ca09ab0cb5", checked := Try.checked }
namespace Rows
def none {H : Type} : Left H := { results := [], args := [] }

/-- 'laws.FnInit': WHATEVER THE INPUT: true; the input reads as it did. -/
def fnInitSpec : ChangeSpec := { name := "fnInit", fn := fun _ => fun
  | [d] => { results := [.lit (.bool true)], args := [d] }
  | _ => none }
def fnInitRow : OpenClaim := { program := "ytdccdihkkfhadaa", sum := "f43ae0ff28c4ab9761ad54423a4acf95de774a54a758bc16eb9747ca09ab0cb5", func := "loop.example/lib-g01086/laws.FnInit", spec := "fnInit", unfollowed := true, recurses := true, apart := false }
def FnInitSaid : Prop := fnInitRow.holds Try.pinned (OpenSpec.ofChange fnInitSpec)

/-- ITS FALSE NEIGHBOUR: 'it returns false'. Refute it at one input. -/
def fnInitWrong : ChangeSpec := { name := "fnInit", fn := fun _ => fun
  | [d] => { results := [.lit (.bool false)], args := [d] }
  | _ => none }
def FnInitWrongFalsely : Prop := fnInitRow.holds Try.pinned (OpenSpec.ofChange fnInitWrong)

/-- 'laws.FnInitAgain': WHATEVER THE INPUT: true; the input reads as it did. -/
def fnInitAgainSpec : ChangeSpec := { name := "fnInitAgain", fn := fun _ => fun
  | [d] => { results := [.lit (.bool true)], args := [d] }
  | _ => none }
def fnInitAgainRow : OpenClaim := { program := "ytdccdihkkfhadaa", sum := "f43ae0ff28c4ab9761ad54423a4acf95de774a54a758bc16eb9747ca09ab0cb5", func := "loop.example/lib-g01086/laws.FnInitAgain", spec := "fnInitAgain", unfollowed := true, recurses := true, apart := false }
def FnInitAgainSaid : Prop := fnInitAgainRow.holds Try.pinned (OpenSpec.ofChange fnInitAgainSpec)

/-- ITS FALSE NEIGHBOUR: 'it returns false'. Refute it at one input. -/
def fnInitAgainWrong : ChangeSpec := { name := "fnInitAgain", fn := fun _ => fun
  | [d] => { results := [.lit (.bool false)], args := [d] }
  | _ => none }
def FnInitAgainWrongFalsely : Prop := fnInitAgainRow.holds Try.pinned (OpenSpec.ofChange fnInitAgainWrong)

/-- 'laws.FnInitOfHeap': WHATEVER THE INPUT: true; the input reads as it did. -/
def fnInitOfHeapSpec : ChangeSpec := { name := "fnInitOfHeap", fn := fun _ => fun
  | [d] => { results := [.lit (.bool true)], args := [d] }
  | _ => none }
def fnInitOfHeapRow : OpenClaim := { program := "ytdccdihkkfhadaa", sum := "f43ae0ff28c4ab9761ad54423a4acf95de774a54a758bc16eb9747ca09ab0cb5", func := "loop.example/lib-g01086/laws.FnInitOfHeap", spec := "fnInitOfHeap", unfollowed := true, recurses := true, apart := false }
def FnInitOfHeapSaid : Prop := fnInitOfHeapRow.holds Try.pinned (OpenSpec.ofChange fnInitOfHeapSpec)

/-- ITS FALSE NEIGHBOUR: 'it returns false'. Refute it at one input. -/
def fnInitOfHeapWrong : ChangeSpec := { name := "fnInitOfHeap", fn := fun _ => fun
  | [d] => { results := [.lit (.bool false)], args := [d] }
  | _ => none }
def FnInitOfHeapWrongFalsely : Prop := fnInitOfHeapRow.holds Try.pinned (OpenSpec.ofChange fnInitOfHeapWrong)

/-- 'laws.FnPushLeast': WHATEVER THE INPUT: true; the input reads as it did. -/
def fnPushLeastSpec : ChangeSpec := { name := "fnPushLeast", fn := fun _ => fun
  | [d1, d2] => { results := [.lit (.bool true)], args := [d1, d2] }
  | _ => none }
def fnPushLeastRow : OpenClaim := { program := "ytdccdihkkfhadaa", sum := "f43ae0ff28c4ab9761ad54423a4acf95de774a54a758bc16eb9747ca09ab0cb5", func := "loop.example/lib-g01086/laws.FnPushLeast", spec := "fnPushLeast", unfollowed := true, recurses := true, apart := false }
def FnPushLeastSaid : Prop := fnPushLeastRow.holds Try.pinned (OpenSpec.ofChange fnPushLeastSpec)

/-- ITS FALSE NEIGHBOUR: 'it returns false'. Refute it at one input. -/
def fnPushLeastWrong : ChangeSpec := { name := "fnPushLeast", fn := fun _ => fun
  | [d1, d2] => { results := [.lit (.bool false)], args := [d1, d2] }
  | _ => none }
def FnPushLeastWrongFalsely : Prop := fnPushLeastRow.holds Try.pinned (OpenSpec.ofChange fnPushLeastWrong)

/-- 'laws.FnAnyPush': WHATEVER THE INPUT: true; the input reads as it did. -/
def fnAnyPushSpec : ChangeSpec := { name := "fnAnyPush", fn := fun _ => fun
  | [d1, d2] => { results := [.lit (.bool true)], args := [d1, d2] }
  | _ => none }
def fnAnyPushRow : OpenClaim := { program := "ytdccdihkkfhadaa", sum := "f43ae0ff28c4ab9761ad54423a4acf95de774a54a758bc16eb9747ca09ab0cb5", func := "loop.example/lib-g01086/laws.FnAnyPush", spec := "fnAnyPush", unfollowed := true, recurses := true, apart := false }
def FnAnyPushSaid : Prop := fnAnyPushRow.holds Try.pinned (OpenSpec.ofChange fnAnyPushSpec)

/-- ITS FALSE NEIGHBOUR: 'it returns false'. Refute it at one input. -/
def fnAnyPushWrong : ChangeSpec := { name := "fnAnyPush", fn := fun _ => fun
  | [d1, d2] => { results := [.lit (.bool false)], args := [d1, d2] }
  | _ => none }
def FnAnyPushWrongFalsely : Prop := fnAnyPushRow.holds Try.pinned (OpenSpec.ofChange fnAnyPushWrong)

/-- 'laws.FnPush': WHATEVER THE INPUT: true; the input reads as it did. -/
def fnPushSpec : ChangeSpec := { name := "fnPush", fn := fun _ => fun
  | [d1, d2] => { results := [.lit (.bool true)], args := [d1, d2] }
  | _ => none }
def fnPushRow : OpenClaim := { program := "ytdccdihkkfhadaa", sum := "f43ae0ff28c4ab9761ad54423a4acf95de774a54a758bc16eb9747ca09ab0cb5", func := "loop.example/lib-g01086/laws.FnPush", spec := "fnPush", unfollowed := true, recurses := true, apart := false }
def FnPushSaid : Prop := fnPushRow.holds Try.pinned (OpenSpec.ofChange fnPushSpec)

/-- ITS FALSE NEIGHBOUR: 'it returns false'. Refute it at one input. -/
def fnPushWrong : ChangeSpec := { name := "fnPush", fn := fun _ => fun
  | [d1, d2] => { results := [.lit (.bool false)], args := [d1, d2] }
  | _ => none }
def FnPushWrongFalsely : Prop := fnPushRow.holds Try.pinned (OpenSpec.ofChange fnPushWrong)

/-- 'laws.FnPushPops': WHATEVER THE INPUT: true; the input reads as it did. -/
def fnPushPopsSpec : ChangeSpec := { name := "fnPushPops", fn := fun _ => fun
  | [d1, d2] => { results := [.lit (.bool true)], args := [d1, d2] }
  | _ => none }
def fnPushPopsRow : OpenClaim := { program := "ytdccdihkkfhadaa", sum := "f43ae0ff28c4ab9761ad54423a4acf95de774a54a758bc16eb9747ca09ab0cb5", func := "loop.example/lib-g01086/laws.FnPushPops", spec := "fnPushPops", unfollowed := true, recurses := true, apart := false }
def FnPushPopsSaid : Prop := fnPushPopsRow.holds Try.pinned (OpenSpec.ofChange fnPushPopsSpec)

/-- ITS FALSE NEIGHBOUR: 'it returns false'. Refute it at one input. -/
def fnPushPopsWrong : ChangeSpec := { name := "fnPushPops", fn := fun _ => fun
  | [d1, d2] => { results := [.lit (.bool false)], args := [d1, d2] }
  | _ => none }
def FnPushPopsWrongFalsely : Prop := fnPushPopsRow.holds Try.pinned (OpenSpec.ofChange fnPushPopsWrong)

/-- 'laws.FnPushItems': WHATEVER THE INPUT: true; the input reads as it did. -/
def fnPushItemsSpec : ChangeSpec := { name := "fnPushItems", fn := fun _ => fun
  | [d] => { results := [.lit (.bool true)], args := [d] }
  | _ => none }
def fnPushItemsRow : OpenClaim := { program := "ytdccdihkkfhadaa", sum := "f43ae0ff28c4ab9761ad54423a4acf95de774a54a758bc16eb9747ca09ab0cb5", func := "loop.example/lib-g01086/laws.FnPushItems", spec := "fnPushItems", unfollowed := true, recurses := true, apart := false }
def FnPushItemsSaid : Prop := fnPushItemsRow.holds Try.pinned (OpenSpec.ofChange fnPushItemsSpec)

/-- ITS FALSE NEIGHBOUR: 'it returns false'. Refute it at one input. -/
def fnPushItemsWrong : ChangeSpec := { name := "fnPushItems", fn := fun _ => fun
  | [d] => { results := [.lit (.bool false)], args := [d] }
  | _ => none }
def FnPushItemsWrongFalsely : Prop := fnPushItemsRow.holds Try.pinned (OpenSpec.ofChange fnPushItemsWrong)

/-- 'laws.FnPushOneMore': WHATEVER THE INPUT: true; the input reads as it did. -/
def fnPushOneMoreSpec : ChangeSpec := { name := "fnPushOneMore", fn := fun _ => fun
  | [d1, d2] => { results := [.lit (.bool true)], args := [d1, d2] }
  | _ => none }
def fnPushOneMoreRow : OpenClaim := { program := "ytdccdihkkfhadaa", sum := "f43ae0ff28c4ab9761ad54423a4acf95de774a54a758bc16eb9747ca09ab0cb5", func := "loop.example/lib-g01086/laws.FnPushOneMore", spec := "fnPushOneMore", unfollowed := true, recurses := true, apart := false }
def FnPushOneMoreSaid : Prop := fnPushOneMoreRow.holds Try.pinned (OpenSpec.ofChange fnPushOneMoreSpec)

/-- ITS FALSE NEIGHBOUR: 'it returns false'. Refute it at one input. -/
def fnPushOneMoreWrong : ChangeSpec := { name := "fnPushOneMore", fn := fun _ => fun
  | [d1, d2] => { results := [.lit (.bool false)], args := [d1, d2] }
  | _ => none }
def FnPushOneMoreWrongFalsely : Prop := fnPushOneMoreRow.holds Try.pinned (OpenSpec.ofChange fnPushOneMoreWrong)

/-- 'laws.FnAnyPop': WHATEVER THE INPUT: true; the input reads as it did. -/
def fnAnyPopSpec : ChangeSpec := { name := "fnAnyPop", fn := fun _ => fun
  | [d] => { results := [.lit (.bool true)], args := [d] }
  | _ => none }
def fnAnyPopRow : OpenClaim := { program := "ytdccdihkkfhadaa", sum := "f43ae0ff28c4ab9761ad54423a4acf95de774a54a758bc16eb9747ca09ab0cb5", func := "loop.example/lib-g01086/laws.FnAnyPop", spec := "fnAnyPop", unfollowed := true, recurses := true, apart := false }
def FnAnyPopSaid : Prop := fnAnyPopRow.holds Try.pinned (OpenSpec.ofChange fnAnyPopSpec)

/-- ITS FALSE NEIGHBOUR: 'it returns false'. Refute it at one input. -/
def fnAnyPopWrong : ChangeSpec := { name := "fnAnyPop", fn := fun _ => fun
  | [d] => { results := [.lit (.bool false)], args := [d] }
  | _ => none }
def FnAnyPopWrongFalsely : Prop := fnAnyPopRow.holds Try.pinned (OpenSpec.ofChange fnAnyPopWrong)

/-- 'laws.FnPop': WHATEVER THE INPUT: true; the input reads as it did. -/
def fnPopSpec : ChangeSpec := { name := "fnPop", fn := fun _ => fun
  | [d] => { results := [.lit (.bool true)], args := [d] }
  | _ => none }
def fnPopRow : OpenClaim := { program := "ytdccdihkkfhadaa", sum := "f43ae0ff28c4ab9761ad54423a4acf95de774a54a758bc16eb9747ca09ab0cb5", func := "loop.example/lib-g01086/laws.FnPop", spec := "fnPop", unfollowed := true, recurses := true, apart := false }
def FnPopSaid : Prop := fnPopRow.holds Try.pinned (OpenSpec.ofChange fnPopSpec)

/-- ITS FALSE NEIGHBOUR: 'it returns false'. Refute it at one input. -/
def fnPopWrong : ChangeSpec := { name := "fnPop", fn := fun _ => fun
  | [d] => { results := [.lit (.bool false)], args := [d] }
  | _ => none }
def FnPopWrongFalsely : Prop := fnPopRow.holds Try.pinned (OpenSpec.ofChange fnPopWrong)

/-- 'laws.FnPopFirst': WHATEVER THE INPUT: true; the input reads as it did. -/
def fnPopFirstSpec : ChangeSpec := { name := "fnPopFirst", fn := fun _ => fun
  | [d] => { results := [.lit (.bool true)], args := [d] }
  | _ => none }
def fnPopFirstRow : OpenClaim := { program := "ytdccdihkkfhadaa", sum := "f43ae0ff28c4ab9761ad54423a4acf95de774a54a758bc16eb9747ca09ab0cb5", func := "loop.example/lib-g01086/laws.FnPopFirst", spec := "fnPopFirst", unfollowed := true, recurses := true, apart := false }
def FnPopFirstSaid : Prop := fnPopFirstRow.holds Try.pinned (OpenSpec.ofChange fnPopFirstSpec)

/-- ITS FALSE NEIGHBOUR: 'it returns false'. Refute it at one input. -/
def fnPopFirstWrong : ChangeSpec := { name := "fnPopFirst", fn := fun _ => fun
  | [d] => { results := [.lit (.bool false)], args := [d] }
  | _ => none }
def FnPopFirstWrongFalsely : Prop := fnPopFirstRow.holds Try.pinned (OpenSpec.ofChange fnPopFirstWrong)

/- THE SECOND FORM. 'bulk': how many values and letters a reading holds, each counted each time it is reached (what is shared counts as often as it is met; a slice's spare places count too). A statement '..UptoSaid' is the law's where the arguments, and the package variables that the reading takes, are together of bulk at most 1048576: NARROWER than '..Said'. Prove '..Said' where nothing that the law and all that it calls make is longer than what came in: it says more and counts as full. Else prove '..UptoSaid'. A law counts once. -/
mutual
def uptoBulk {H : Type} : DataW H → Nat
  | .lit (.string bytes) => bytes.length + 1
  | .lit _ => 1
  | .nil => 1
  | .ptr d => uptoBulk d + 1
  | .slice elems spare => uptoBulkAll elems + uptoBulkAll spare + 1
  | .agg parts => uptoBulkAll parts + 1
  | .iface _ d => uptoBulk d + 1
  | .map entries => uptoBulkEntries entries + 1
  | .held _ => 1
def uptoBulkAll {H : Type} : List (DataW H) → Nat
  | [] => 0
  | d :: r => uptoBulk d + uptoBulkAll r
def uptoBulkEntries {H : Type} : List (Lit × DataW H) → Nat
  | [] => 0
  | x :: r => uptoBulkEntry x + uptoBulkEntries r
def uptoBulkEntry {H : Type} : Lit × DataW H → Nat
  | (.string bytes, d) => bytes.length + uptoBulk d + 1
  | (_, d) => uptoBulk d + 1
 end
def uptoSmall : (H : Type) → List (DataW H) → Bool := fun _ ds => decide (uptoBulkAll ds ≤ 1048576)
def OpenSpec.upto (s : _root_.Go.ChangeSpec) : _root_.Go.OpenSpec := { _root_.Go.OpenSpec.ofChange s with cond := some uptoSmall }

/-- 'laws.FnInit', WHERE WHAT IT READS IS OF BULK AT MOST 1048576: true; the input reads as it did. -/
def fnInitUptoRow : OpenClaim := { program := "ytdccdihkkfhadaa", sum := "f43ae0ff28c4ab9761ad54423a4acf95de774a54a758bc16eb9747ca09ab0cb5", func := "loop.example/lib-g01086/laws.FnInit", spec := "fnInit", unfollowed := true, recurses := true, apart := false, narrowed := true }
def FnInitUptoSaid : Prop := fnInitUptoRow.holds Try.pinned (OpenSpec.upto fnInitSpec)

/-- 'laws.FnInitAgain', WHERE WHAT IT READS IS OF BULK AT MOST 1048576: true; the input reads as it did. -/
def fnInitAgainUptoRow : OpenClaim := { program := "ytdccdihkkfhadaa", sum := "f43ae0ff28c4ab9761ad54423a4acf95de774a54a758bc16eb9747ca09ab0cb5", func := "loop.example/lib-g01086/laws.FnInitAgain", spec := "fnInitAgain", unfollowed := true, recurses := true, apart := false, narrowed := true }
def FnInitAgainUptoSaid : Prop := fnInitAgainUptoRow.holds Try.pinned (OpenSpec.upto fnInitAgainSpec)

/-- 'laws.FnInitOfHeap', WHERE WHAT IT READS IS OF BULK AT MOST 1048576: true; the input reads as it did. -/
def fnInitOfHeapUptoRow : OpenClaim := { program := "ytdccdihkkfhadaa", sum := "f43ae0ff28c4ab9761ad54423a4acf95de774a54a758bc16eb9747ca09ab0cb5", func := "loop.example/lib-g01086/laws.FnInitOfHeap", spec := "fnInitOfHeap", unfollowed := true, recurses := true, apart := false, narrowed := true }
def FnInitOfHeapUptoSaid : Prop := fnInitOfHeapUptoRow.holds Try.pinned (OpenSpec.upto fnInitOfHeapSpec)

/-- 'laws.FnPushLeast', WHERE WHAT IT READS IS OF BULK AT MOST 1048576: true; the input reads as it did. -/
def fnPushLeastUptoRow : OpenClaim := { program := "ytdccdihkkfhadaa", sum := "f43ae0ff28c4ab9761ad54423a4acf95de774a54a758bc16eb9747ca09ab0cb5", func := "loop.example/lib-g01086/laws.FnPushLeast", spec := "fnPushLeast", unfollowed := true, recurses := true, apart := false, narrowed := true }
def FnPushLeastUptoSaid : Prop := fnPushLeastUptoRow.holds Try.pinned (OpenSpec.upto fnPushLeastSpec)

/-- 'laws.FnAnyPush', WHERE WHAT IT READS IS OF BULK AT MOST 1048576: true; the input reads as it did. -/
def fnAnyPushUptoRow : OpenClaim := { program := "ytdccdihkkfhadaa", sum := "f43ae0ff28c4ab9761ad54423a4acf95de774a54a758bc16eb9747ca09ab0cb5", func := "loop.example/lib-g01086/laws.FnAnyPush", spec := "fnAnyPush", unfollowed := true, recurses := true, apart := false, narrowed := true }
def FnAnyPushUptoSaid : Prop := fnAnyPushUptoRow.holds Try.pinned (OpenSpec.upto fnAnyPushSpec)

/-- 'laws.FnPush', WHERE WHAT IT READS IS OF BULK AT MOST 1048576: true; the input reads as it did. -/
def fnPushUptoRow : OpenClaim := { program := "ytdccdihkkfhadaa", sum := "f43ae0ff28c4ab9761ad54423a4acf95de774a54a758bc16eb9747ca09ab0cb5", func := "loop.example/lib-g01086/laws.FnPush", spec := "fnPush", unfollowed := true, recurses := true, apart := false, narrowed := true }
def FnPushUptoSaid : Prop := fnPushUptoRow.holds Try.pinned (OpenSpec.upto fnPushSpec)

/-- 'laws.FnPushPops', WHERE WHAT IT READS IS OF BULK AT MOST 1048576: true; the input reads as it did. -/
def fnPushPopsUptoRow : OpenClaim := { program := "ytdccdihkkfhadaa", sum := "f43ae0ff28c4ab9761ad54423a4acf95de774a54a758bc16eb9747ca09ab0cb5", func := "loop.example/lib-g01086/laws.FnPushPops", spec := "fnPushPops", unfollowed := true, recurses := true, apart := false, narrowed := true }
def FnPushPopsUptoSaid : Prop := fnPushPopsUptoRow.holds Try.pinned (OpenSpec.upto fnPushPopsSpec)

/-- 'laws.FnPushItems', WHERE WHAT IT READS IS OF BULK AT MOST 1048576: true; the input reads as it did. -/
def fnPushItemsUptoRow : OpenClaim := { program := "ytdccdihkkfhadaa", sum := "f43ae0ff28c4ab9761ad54423a4acf95de774a54a758bc16eb9747ca09ab0cb5", func := "loop.example/lib-g01086/laws.FnPushItems", spec := "fnPushItems", unfollowed := true, recurses := true, apart := false, narrowed := true }
def FnPushItemsUptoSaid : Prop := fnPushItemsUptoRow.holds Try.pinned (OpenSpec.upto fnPushItemsSpec)

/-- 'laws.FnPushOneMore', WHERE WHAT IT READS IS OF BULK AT MOST 1048576: true; the input reads as it did. -/
def fnPushOneMoreUptoRow : OpenClaim := { program := "ytdccdihkkfhadaa", sum := "f43ae0ff28c4ab9761ad54423a4acf95de774a54a758bc16eb9747ca09ab0cb5", func := "loop.example/lib-g01086/laws.FnPushOneMore", spec := "fnPushOneMore", unfollowed := true, recurses := true, apart := false, narrowed := true }
def FnPushOneMoreUptoSaid : Prop := fnPushOneMoreUptoRow.holds Try.pinned (OpenSpec.upto fnPushOneMoreSpec)

/-- 'laws.FnAnyPop', WHERE WHAT IT READS IS OF BULK AT MOST 1048576: true; the input reads as it did. -/
def fnAnyPopUptoRow : OpenClaim := { program := "ytdccdihkkfhadaa", sum := "f43ae0ff28c4ab9761ad54423a4acf95de774a54a758bc16eb9747ca09ab0cb5", func := "loop.example/lib-g01086/laws.FnAnyPop", spec := "fnAnyPop", unfollowed := true, recurses := true, apart := false, narrowed := true }
def FnAnyPopUptoSaid : Prop := fnAnyPopUptoRow.holds Try.pinned (OpenSpec.upto fnAnyPopSpec)

/-- 'laws.FnPop', WHERE WHAT IT READS IS OF BULK AT MOST 1048576: true; the input reads as it did. -/
def fnPopUptoRow : OpenClaim := { program := "ytdccdihkkfhadaa", sum := "f43ae0ff28c4ab9761ad54423a4acf95de774a54a758bc16eb9747ca09ab0cb5", func := "loop.example/lib-g01086/laws.FnPop", spec := "fnPop", unfollowed := true, recurses := true, apart := false, narrowed := true }
def FnPopUptoSaid : Prop := fnPopUptoRow.holds Try.pinned (OpenSpec.upto fnPopSpec)

/-- 'laws.FnPopFirst', WHERE WHAT IT READS IS OF BULK AT MOST 1048576: true; the input reads as it did. -/
def fnPopFirstUptoRow : OpenClaim := { program := "ytdccdihkkfhadaa", sum := "f43ae0ff28c4ab9761ad54423a4acf95de774a54a758bc16eb9747ca09ab0cb5", func := "loop.example/lib-g01086/laws.FnPopFirst", spec := "fnPopFirst", unfollowed := true, recurses := true, apart := false, narrowed := true }
def FnPopFirstUptoSaid : Prop := fnPopFirstUptoRow.holds Try.pinned (OpenSpec.upto fnPopFirstSpec)

end Rows
end Go.Proofs.Ytdccdihkkfhadaa
