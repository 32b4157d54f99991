/- HeapPushSortInts: a push of each onto an empty heap, then as many pops. -/
import Derived.Test.YtibdaodneipmjaaInts
import Derived.Deep.RegionWith
namespace Go.Proofs.Ytibdaodneipmjaa
set_option linter.unusedVariables false
open Go.RowKit

set_option maxHeartbeats 800000 in
theorem pushSortInts_any (A : Option Addr) (c : Nat) (l : List Int) (w : World) (hs : Sees w w.heap.size 1 A l.length (l.map (Value.int .i64))) (hn : l.length * 8 ≤ 140737488355328) :
    Calls Try.prog 17 #[.slice A l.length c] w (NewNums w (pushSort l)) := by
  obtain ⟨i0, hi, hz0, hz1, hz2⟩ := info_parts info_int
  have HS := Lib.hid hs
  clear hs
  have HH := Lib.hid (heapAt_new (TH := 34) (E := 3) (sz := 1) (fl := List.map (Value.int .i64)) (ex := []) (l := []) (World.ownsRow_nil w w.heap.size 3 1) (Below.refl w.heap.size w) (Nat.le_refl _))
  go_enter Try.func17, Try.ntmps17
  go_wp2_with fail
  go_loopg [9] l.length (fun m i wr => ∃ (k : Nat), i = .int .i64 k ∧ k + m = l.length ∧ Hid (IntsAt 34 [] (· < w.heap.size) w w.heap.size (pushAll ilt (l.take k)) wr))
  case atStart => exact ⟨0, rfl, by omega, HH.out⟩
  case round =>
    obtain ⟨k, rfl, hk, HI⟩ := hrel
    have hB := HI.out.kept.below (B := w.heap.size) fun _ h => h
    by_cases hlt : k < l.length
    · obtain ⟨b, off, rfl, hbw, hc⟩ := HS.out.cellAt (by omega) hB
      have c0 := hc k _ (nums_at l k hlt)
      clear hc
      have hpt := pushAll_take ilt l k hlt
      have hbw' : b < wr.heap.size := Nat.lt_of_lt_of_le hbw hB.size
      obtain ⟨xk, hX⟩ : ∃ x, l[k] = x := ⟨_, rfl⟩
      rw [hX] at c0 hpt
      have HPT := Lib.hid hpt
      have hk' := Lib.hid hk
      have hkl : k + 1 ≤ l.length := hlt
      have HPU := Lib.hid (ints_heapPush _ w w.heap.size (pushAll ilt (l.take k)) xk _ HI.out (by rw [pushAll_length, List.length_take]; omega))
      clear hpt hX hk hB
      go_wp2_with (go_at_call 39
                   refine HPU.out.mono ?_
                   rintro e w2 ⟨rfl, hI2⟩
                   have HI2 := Lib.hid hI2
                   clear hI2)
      go_roundg (l.length - (k + 1))
      case measure => have := hk'.out; omega
      case rel => exact ⟨k + 1, by go_num, by omega, by rw [HPT.out]; exact HI2⟩
    · obtain rfl : k = l.length := by omega
      rw [List.take_length] at HI
      have hsf : pushSort l = popsF ilt 0 l.length (pushAll ilt l) := rfl
      have hnl : (pushAll ilt l).length = l.length := pushAll_length ilt l
      generalize pushAll ilt l = li at *
      have HL := Lib.hid hnl
      have HSF := Lib.hid hsf
      have HHI := Lib.hid HI.out
      have HBI := Lib.hid hB
      have hbb := hB.size
      clear hB hnl hsf HI
      go_wp2_with fail
      go_loopg [6, 20] l.length (fun m v i wr => ∃ (k : Nat) (A' : Option Addr) (c' : Nat), i = .int .i64 k ∧ k + m = l.length ∧ v = .slice A' k c' ∧ Hid (wr.ownsRow w.heap.size 3 1 (.slice A' k c') k ((popsF ilt 0 k li).map (Value.int .i64))) ∧ Hid (Below w.heap.size w wr) ∧ Hid (IntsAt 34 [] (fun b => b < w.heap.size ∨ (Value.slice A' k c').ownBlock = some b) wr w.heap.size (leftF ilt k li) wr))
      case atStart =>
        exact ⟨0, none, 0, rfl, by omega, rfl, World.ownsRow_nil _ _ _ _, HBI.out, heap_start_beside HHI.out HBI.out.size⟩
      case round =>
        obtain ⟨k, A', c', rfl, hk, rfl, HO, HB, HI⟩ := hrel
        by_cases hlt : k < l.length
        · have hps := popsF_succ ilt 0 k li
          have hls := leftF_succ ilt k li
          have hpop := ints_heapPop _ wr w.heap.size (leftF ilt k li) wr HI.out (by rw [leftF_length, HL.out]; omega) (by rw [leftF_length, HL.out]; omega)
          rw [← hls] at hpop
          obtain ⟨xk, hX⟩ : ∃ x, popTop ilt 0 (leftF ilt k li) = x := ⟨_, rfl⟩
          rw [hX] at hpop hps
          have HPS := Lib.hid hps
          have HPOP := Lib.hid hpop
          clear hps hls hpop hX
          have hta := assert_ints ((Value.int .i64) xk)
          have hkl : k + 1 ≤ l.length := hlt
          have hk' := Lib.hid hk
          clear hk
          go_wp2_with (first
            | (go_at_call 38
               refine HPOP.out.mono ?_
               rintro e w2 ⟨rfl, hI2⟩
               have HI2 := Lib.hid hI2
               have HO2 := Lib.hid (own_kept HO.out hI2.kept (fun g hg => .inr hg))
               have HB2 := Lib.hid (HB.out.trans (hI2.kept.below (fun b hb => .inl hb)))
               clear hI2)
            | (at_builtin
               (refine wpList_append_row _ rfl (.tmp 22) (.tmp 26) 22 rfl w.heap.size 3 i0 _ 1 8 Try.underlying22 hi hz0 hz1 hz2 rfl (by decide) (.slice A' k c') k ((popsF ilt 0 k li).map (Value.int .i64)) rfl ?_ (w2.heap.size + 1) (some ⟨w2.heap.size, 0, none⟩) 1 1 [(Value.int .i64) xk] rfl ?_ (one_cell _) ?_ ?_ ?_ ?_)
               · exact HO2.out.alloc _
               · exact sees_new rfl
               · unfold maxLen; omega
               · omega
               · have := HB2.out.size; simp; omega
               intro A3 c3 w3 hown hg hat
               have HO3 := Lib.hid hown
               have HB3 := Lib.hid ((HB2.out.alloc HB2.out.size _).grown hg (by have := HB2.out.size; simp; omega) (fun g hgg => (HO.out.lt g hgg).1))
               have HI3 := Lib.hid (heap_beside HI2.out (World.grownBy_alloc _ _ none) hg hat (own_lt hown) HB3.out.size)
               clear hown hg hat))
          go_roundg (l.length - (k + 1))
          case measure => have := hk'.out; omega
          case rel => exact ⟨k + 1, A3, c3, by go_num, by omega, rfl, by rw [HPS.out, List.map_append]; exact HO3, HB3, HI3⟩
        · obtain rfl : k = l.length := by omega
          go_wp2
          go_ret
          refine ⟨A', c', ?_, ?_, HB.out⟩
          · rw [pushSort_length]; rfl
          · rw [pushSort_length, HSF.out]; exact HO.out
end Go.Proofs.Ytibdaodneipmjaa
