/- The heap of items: Push and Pop, and the functions copied, HeapInit, HeapPush, HeapPop. -/
import Derived.Test.YtgijkfkfifjokaaItems
namespace Go.Proofs.Ytgijkfkfifjokaa
set_option linter.unusedVariables false
open Go.RowKit

/-- A new slice of items is handed back; nothing that was there has turned. -/
def NewItems (w : World) (l : List (Int × Int)) (e : Ending) (w' : World) : Prop :=
  ∃ A c, e = .returned (.slice A l.length c) ∧ w'.ownsRow w.heap.size 50 2 (.slice A l.length c) l.length (ics l) ∧ Below w.heap.size w w'

theorem new_eq {P : Program} {f : FuncId} {args : Array Value} {w : World} {l l' : List (Int × Int)} (h : Calls P f args w (NewItems w l)) (e : l = l') : Calls P f args w (NewItems w l') := e ▸ h

set_option maxHeartbeats 400000 in
theorem copied_any (A : Option Addr) (c : Nat) (l : List (Int × Int)) (w : World) (B : Nat) (hs : Sees w B 2 A l.length (ics l)) (hn : l.length * 16 ≤ 140737488355328) :
    Calls Try.prog 33 #[.slice A l.length c] w (NewItems w l) := by
  obtain ⟨i0, hi, hz0, hz1, hz2⟩ := info_parts info_item
  have HS := Lib.hid hs
  clear hs
  go_enter Try.func33, Try.ntmps33
  go_wp2_with (at_builtin
               (refine wpList_append_row _ rfl (.const (.slice none 0 0)) (.tmp 3) 35 rfl w.heap.size 50 i0 _ 2 16 Try.underlying35 hi hz0 hz1 hz2 rfl (by decide) (.slice none 0 0) 0 [] rfl (World.ownsRow_nil _ _ _ _) B A l.length c (ics l) rfl HS.out (ics_cells l) ?_ ?_ (Nat.le_refl _) ?_)
               · unfold maxLen; omega
               · omega
               intro A' c' w1 hown hg _
               simp only [Nat.zero_add, List.nil_append] at hown ⊢)
  go_ret
  exact ⟨A', c', rfl, hown, (Below.refl _ _).grown hg (Nat.le_refl _) (by simp [Value.ownBlock])⟩

def heapInit (l : List (Int × Int)) : List (Int × Int) := initM (listM klt) l.length (l.length / 2) l
theorem heapInit_length (l : List (Int × Int)) : (heapInit l).length = l.length := (listM_fair klt).len_init _ _ _


end Go.Proofs.Ytgijkfkfifjokaa
