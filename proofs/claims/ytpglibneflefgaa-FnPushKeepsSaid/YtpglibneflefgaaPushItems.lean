/- HeapPushItems: all items pushed onto an empty heap, one by one. -/
import Derived.Test.YtpglibneflefgaaItemPush
namespace Go.Proofs.Ytpglibneflefgaa
set_option linter.unusedVariables false
open Go.RowKit

set_option maxHeartbeats 400000 in
theorem pushItems_any (A : Option Addr) (c : Nat) (l : List (Int × Int)) (w : World) (hs : Sees w w.heap.size 2 A l.length (ics l)) (hn : l.length * 16 ≤ 140737488355328) :
    Calls Try.prog 27 #[.slice A l.length c] w (NewItems w (pushAll klt l)) := by
  have HS := Lib.hid hs
  clear hs
  have HH := Lib.hid (heapAt_new (TH := 46) (E := 36) (sz := 2) (fl := ics) (ex := []) (l := []) (World.ownsRow_nil w w.heap.size 36 2) (Below.refl w.heap.size w) (Nat.le_refl _))
  go_enter Try.func27, Try.ntmps27
  go_wp2_with fail
  go_loopg [8] l.length (fun m i wr => ∃ (k : Nat), i = .int .i64 k ∧ k + m = l.length ∧ Hid (ItemsAt (· < w.heap.size) w w.heap.size (pushAll klt (l.take k)) wr))
  case atStart => exact ⟨0, rfl, by omega, HH.out⟩
  case round =>
    obtain ⟨k, rfl, hk, HI⟩ := hrel
    have hB := HI.out.kept.below (B := w.heap.size) fun _ h => h
    by_cases hlt : k < l.length
    · obtain ⟨b, off, rfl, hbw, hc⟩ := HS.out.cellAt (by omega) hB
      have c0 := hc (k * 2) _ (ics_key l k hlt)
      have c1 := hc (k * 2 + 1) _ (ics_tag l k hlt)
      clear hc
      rw [← Nat.add_assoc] at c1
      have hpt := pushAll_take klt l k hlt
      have hbw' : b < wr.heap.size := Nat.lt_of_lt_of_le hbw hB.size
      obtain ⟨⟨xk, xt⟩, hX⟩ : ∃ x, l[k] = x := ⟨_, rfl⟩
      rw [hX] at c0 c1 hpt
      dsimp only at c0 c1
      have HPT := Lib.hid hpt
      have hk' := Lib.hid hk
      have hkl : k + 1 ≤ l.length := hlt
      have HPU := Lib.hid (items_heapPush _ w w.heap.size (pushAll klt (l.take k)) xk xt _ (HI.out.alloc (.cells #[.int .i64 xk, .int .i64 xt] 36)) (by rw [pushAll_length, List.length_take]; omega))
      clear hpt hX hk hB
      go_wp2_with (go_at_call 34
                   refine HPU.out.mono ?_
                   rintro e w2 ⟨rfl, hI2⟩
                   have HI2 := Lib.hid hI2
                   clear hI2)
      go_roundg (l.length - (k + 1))
      case measure => have := hk'.out; omega
      case rel => exact ⟨k + 1, by go_num, by omega, by rw [HPT.out]; exact HI2⟩
    · obtain rfl : k = l.length := by omega
      rw [List.take_length] at HI
      obtain ⟨A2, c2, hbk, ho2, _⟩ := HI.out.hdr
      have hh2 : wr.cell? ⟨w.heap.size, 0, none⟩ = some (.slice A2 (pushAll klt l).length c2) := hbk.cell 0
      have HB := Lib.hid hB
      have HO2 := Lib.hid ho2
      clear hbk ho2 hB
      go_wp2_with fail
      refine (copied_any A2 c2 (pushAll klt l) wr wr.heap.size (Sees.of_own HO2.out) (by rw [pushAll_length]; exact hn)).mono ?_
      rintro e w3 ⟨A3, c3, rfl, ho3, hb3⟩
      go_wp2
      go_ret
      exact ⟨A3, c3, rfl, own_base ho3 HB.out.size, HB.out.trans (hb3.mono HB.out.size)⟩
end Go.Proofs.Ytpglibneflefgaa
