/- The heap of items: Push and Pop, and the functions copied, HeapInit, HeapPush, HeapPop. -/
import Derived.Test.YtpglibneflefgaaItems
namespace Go.Proofs.Ytpglibneflefgaa
set_option linter.unusedVariables false
open Go.RowKit

/-- A new slice of items is handed back; nothing that was there has turned. -/
def NewItems (w : World) (l : List (Int × Int)) (e : Ending) (w' : World) : Prop :=
  ∃ A c, e = .returned (.slice A l.length c) ∧ w'.ownsRow w.heap.size 36 2 (.slice A l.length c) l.length (ics l) ∧ Below w.heap.size w w'

theorem new_eq {P : Program} {f : FuncId} {args : Array Value} {w : World} {l l' : List (Int × Int)} (h : Calls P f args w (NewItems w l)) (e : l = l') : Calls P f args w (NewItems w l') := e ▸ h

set_option maxHeartbeats 400000 in
theorem copied_any (A : Option Addr) (c : Nat) (l : List (Int × Int)) (w : World) (B : Nat) (hs : Sees w B 2 A l.length (ics l)) (hn : l.length * 16 ≤ 140737488355328) :
    Calls Try.prog 32 #[.slice A l.length c] w (NewItems w l) := by
  obtain ⟨i0, hi, hz0, hz1, hz2⟩ := info_parts info_item
  have HS := Lib.hid hs
  clear hs
  go_enter Try.func32, Try.ntmps32
  go_wp2_with (at_builtin
               (refine wpList_append_row _ rfl (.const (.slice none 0 0)) (.tmp 3) 26 rfl w.heap.size 36 i0 _ 2 16 Try.underlying26 hi hz0 hz1 hz2 rfl (by decide) (.slice none 0 0) 0 [] rfl (World.ownsRow_nil _ _ _ _) B A l.length c (ics l) rfl HS.out (ics_cells l) ?_ ?_ (Nat.le_refl _) ?_)
               · unfold maxLen; omega
               · omega
               intro A' c' w1 hown hg _
               simp only [Nat.zero_add, List.nil_append] at hown ⊢)
  go_ret
  exact ⟨A', c', rfl, hown, (Below.refl _ _).grown hg (Nat.le_refl _) (by simp [Value.ownBlock])⟩

def heapInit (l : List (Int × Int)) : List (Int × Int) := initM (listM klt) l.length (l.length / 2) l
theorem heapInit_length (l : List (Int × Int)) : (heapInit l).length = l.length := (listM_fair klt).len_init _ _ _

set_option maxHeartbeats 400000 in
theorem heapInit_any (A : Option Addr) (c : Nat) (l : List (Int × Int)) (w : World) (B : Nat) (hs : Sees w B 2 A l.length (ics l)) (hn : l.length * 16 ≤ 140737488355328) :
    Calls Try.prog 25 #[.slice A l.length c] w (NewItems w (heapInit l)) := by
  have HS := Lib.hid hs
  clear hs
  go_enter Try.func25, Try.ntmps25
  go_wp2_with fail
  refine (copied_any A c l w B HS.out hn).mono ?_
  rintro e w1 ⟨A1, c1, rfl, ho1, hb1⟩
  have HH := Lib.hid (heapAt_new (TH := 46) (ex := []) ho1 hb1 (Nat.le_refl _))
  have HI := Lib.hid (items_impl (· < w.heap.size) w w1.heap.size (3 * l.length * (l.length / 2)) l.length (by omega))
  clear ho1 hb1
  go_wp2_with fail
  refine (init_any HI.out l _ l.length ⟨HH.out, Nat.le_refl _⟩ rfl (by omega) (by show 0 + _ ≤ _; omega)).mono ?_
  rintro e w2 ⟨rfl, hR, _⟩
  obtain ⟨A2, c2, hbk, ho2, _⟩ := hR.hdr
  have hh2 : w2.cell? ⟨w1.heap.size, 0, none⟩ = some (.slice A2 (initM (listM klt) l.length (l.length / 2) l).length c2) := hbk.cell 0
  have HB2 := Lib.hid (hR.kept.below fun _ h => h)
  have HO2 := Lib.hid ho2
  clear hR hbk ho2
  go_wp2_with fail
  refine (copied_any A2 c2 (heapInit l) w2 w2.heap.size (Sees.of_own HO2.out) (by rw [heapInit_length]; exact hn)).mono ?_
  rintro e w3 ⟨A3, c3, rfl, ho3, hb3⟩
  go_wp2
  go_ret
  exact ⟨A3, c3, rfl, own_base ho3 HB2.out.size, HB2.out.trans (hb3.mono HB2.out.size)⟩

end Go.Proofs.Ytpglibneflefgaa
