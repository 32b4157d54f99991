/- HeapSortItems: pops after Init. -/
import Derived.Test.YtpglibneflefgaaItemPush
namespace Go.Proofs.Ytpglibneflefgaa
set_option linter.unusedVariables false
open Go.RowKit

set_option maxHeartbeats 400000 in
theorem sortItems_any (A : Option Addr) (c : Nat) (l : List (Int × Int)) (w : World) (hs : Sees w w.heap.size 2 A l.length (ics l)) (hn : l.length * 16 ≤ 140737488355328) :
    Calls Try.prog 31 #[.slice A l.length c] w (NewItems w (sortF klt (0, 0) l)) := by
  obtain ⟨i0, hi, hz0, hz1, hz2⟩ := info_parts info_item
  have HS := Lib.hid hs
  clear hs
  go_enter Try.func31, Try.ntmps31
  go_wp2_with fail
  refine (copied_any A c l w w.heap.size HS.out hn).mono ?_
  rintro e w1 ⟨A1, c1, rfl, ho1, hb1⟩
  have HH := Lib.hid (heapAt_new (TH := 46) (ex := []) ho1 hb1 (Nat.le_refl _))
  have HB1 := Lib.hid (hb1.alloc hb1.size (.cells #[.slice A1 l.length c1] 46))
  clear ho1 hb1
  have HIM := Lib.hid (items_impl (· < w.heap.size) w w1.heap.size (3 * l.length * (l.length / 2)) l.length (by omega))
  go_wp2_with fail
  refine (init_any HIM.out l _ l.length ⟨HH.out, Nat.le_refl _⟩ rfl (by omega) (by show 0 + _ ≤ _; omega)).mono ?_
  rintro e w0 ⟨rfl, hR, _⟩
  have hnl : (initM (listM klt) l.length (l.length / 2) l).length = l.length := initM_length klt l
  have hsf : sortF klt (0, 0) l = popsF klt (0, 0) l.length (initM (listM klt) l.length (l.length / 2) l) := rfl
  generalize initM (listM klt) l.length (l.length / 2) l = li at *
  have HL := Lib.hid hnl
  have HSF := Lib.hid hsf
  have HHI := Lib.hid hR
  have HBI := Lib.hid (hR.kept.below (B := w.heap.size) fun _ h => h)
  clear hR hnl HH HB1 hsf
  go_wp2_with fail
  go_loopg [4, 11] l.length (fun m v i wr => ∃ (k : Nat) (A' : Option Addr) (c' : Nat), i = .int .i64 k ∧ k + m = l.length ∧ v = .slice A' k c' ∧ Hid (wr.ownsRow w.heap.size 36 2 (.slice A' k c') k (ics (popsF klt (0, 0) k li))) ∧ Hid (Below w.heap.size w wr) ∧ Hid (ItemsAt (fun b => b < w.heap.size ∨ (Value.slice A' k c').ownBlock = some b) wr w1.heap.size (leftF klt k li) wr))
  case atStart =>
    exact ⟨0, none, 0, rfl, by omega, rfl, World.ownsRow_nil _ _ _ _, HBI.out, heap_start_beside HHI.out HBI.out.size⟩
  case round =>
    obtain ⟨k, A', c', rfl, hk, rfl, HO, HB, HI⟩ := hrel
    by_cases hlt : k < l.length
    · have hps := popsF_succ klt (0, 0) k li
      have hls := leftF_succ klt k li
      have hpop := items_heapPop _ wr w1.heap.size (leftF klt k li) wr HI.out (by rw [leftF_length, HL.out]; omega) (by rw [leftF_length, HL.out]; omega)
      rw [← hls] at hpop
      obtain ⟨⟨xk, xt⟩, hX⟩ : ∃ x, popTop klt (0, 0) (leftF klt k li) = x := ⟨_, rfl⟩
      rw [hX] at hpop hps
      have HPS := Lib.hid hps
      have HPOP := Lib.hid hpop
      clear hps hls hpop hX
      have hta := assert_item (.agg #[.int .i64 xk, .int .i64 xt])
      have hkl : k + 1 ≤ l.length := hlt
      have hk' := Lib.hid hk
      clear hk
      go_wp2_with (first
        | (go_at_call 35
           refine HPOP.out.mono ?_
           rintro e w2 ⟨rfl, hI2⟩
           have HI2 := Lib.hid hI2
           have HO2 := Lib.hid (own_kept HO.out hI2.kept (fun g hg => .inr hg))
           have HB2 := Lib.hid (HB.out.trans (hI2.kept.below (fun b hb => .inl hb)))
           clear hI2)
        | (at_builtin
           (refine wpList_append_row _ rfl (.tmp 13) (.tmp 17) 26 rfl w.heap.size 36 i0 _ 2 16 Try.underlying26 hi hz0 hz1 hz2 rfl (by decide) (.slice A' k c') k (ics (popsF klt (0, 0) k li)) rfl ?_ (w2.heap.size + 1) (some ⟨w2.heap.size, 0, none⟩) 1 1 [.int .i64 xk, .int .i64 xt] rfl ?_ (two_cells _ _) ?_ ?_ ?_ ?_)
           · exact HO2.out.alloc _
           · exact sees_new rfl
           · unfold maxLen; omega
           · omega
           · have := HB2.out.size; simp; omega
           intro A3 c3 w3 hown hg hat
           have HO3 := Lib.hid hown
           have HB3 := Lib.hid ((HB2.out.alloc HB2.out.size _).grown hg (by have := HB2.out.size; simp; omega) (fun g hgg => (HO.out.lt g hgg).1))
           have HI3 := Lib.hid (heap_beside HI2.out (World.grownBy_alloc _ _ none) hg hat (own_lt hown) HB3.out.size)
           clear hown hg hat))
      go_roundg (l.length - (k + 1))
      case measure => have := hk'.out; omega
      case rel => exact ⟨k + 1, A3, c3, by go_num, by omega, rfl, by rw [HPS.out, ics_append]; exact HO3, HB3, HI3⟩
    · obtain rfl : k = l.length := by omega
      go_wp2
      go_ret
      refine ⟨A', c', ?_, ?_, HB.out⟩
      · rw [sortF_length]; rfl
      · rw [sortF_length, HSF.out]; exact HO.out
end Go.Proofs.Ytpglibneflefgaa
