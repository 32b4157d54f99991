/- HeapSortInts: Init, then as many pops as there are elements. -/
import Derived.Test.YtjnlolidjbbddaaInts
import Derived.Deep.RegionWith
namespace Go.Proofs.Ytjnlolidjbbddaa
set_option linter.unusedVariables false
open Go.RowKit

set_option maxHeartbeats 400000 in
theorem sortInts_any (A : Option Addr) (c : Nat) (l : List Int) (w : World) (hs : Sees w w.heap.size 1 A l.length (l.map (Value.int .i64))) (hn : l.length * 8 ≤ 140737488355328) :
    Calls Try.prog 11 #[.slice A l.length c] w (NewNums w (sortF ilt 0 l)) := by
  obtain ⟨i0, hi, hz0, hz1, hz2⟩ := info_parts info_int
  have HS := Lib.hid hs
  clear hs
  go_enter Try.func11, Try.ntmps11
  go_wp2_with (
    at_builtin
    (refine wpList_append_row _ rfl (.const (.slice none 0 0)) (.tmp 5) 22 rfl w.heap.size 3 i0 _ 1 8 Try.underlying22 hi hz0 hz1 hz2 rfl (by decide) (.slice none 0 0) 0 [] rfl (World.ownsRow_nil _ _ _ _) w.heap.size A l.length c (l.map (Value.int .i64)) rfl HS.out (nums_cells l) ?_ ?_ (Nat.le_refl _) ?_)
    · unfold maxLen; omega
    · omega
    intro A1 c1 w1 ho1 hg1 _
    simp only [Nat.zero_add, List.nil_append] at ho1 ⊢
    have hb1 := (Below.refl w.heap.size w).grown hg1 (Nat.le_refl _) (by simp [Value.ownBlock])
    clear hg1)
  have HH := Lib.hid (heapAt_new (TH := 32) (ex := []) ho1 hb1 (Nat.le_refl _))
  have HB1 := Lib.hid hb1
  clear ho1 hb1
  have HIM := Lib.hid (ints_impl (· < w.heap.size) w w1.heap.size (3 * l.length * (l.length / 2)) l.length (by omega))
  go_wp2_with fail
  refine (init_any HIM.out l _ l.length ⟨HH.out, Nat.le_refl _⟩ rfl (by omega) (by show 0 + _ ≤ _; omega)).mono ?_
  rintro e w0 ⟨rfl, hR, _⟩
  have hsf : sortF ilt 0 l = popsF ilt 0 l.length (initM (listM ilt) l.length (l.length / 2) l) := rfl
  have hnl : (initM (listM ilt) l.length (l.length / 2) l).length = l.length := initM_length ilt l
  generalize initM (listM ilt) l.length (l.length / 2) l = li at *
  have HL := Lib.hid hnl
  have HSF := Lib.hid hsf
  have HHI := Lib.hid hR
  have HBI := Lib.hid (hR.kept.below (B := w.heap.size) fun _ h => h)
  clear hR hnl HH HB1 hsf
  go_wp2_with fail
  go_loopg [4, 11] l.length (fun m v i wr => ∃ (k : Nat) (A' : Option Addr) (c' : Nat), i = .int .i64 k ∧ k + m = l.length ∧ v = .slice A' k c' ∧ Hid (wr.ownsRow w.heap.size 3 1 (.slice A' k c') k ((popsF ilt 0 k li).map (Value.int .i64))) ∧ Hid (Below w.heap.size w wr) ∧ Hid (IntsAt 32 [] (fun b => b < w.heap.size ∨ (Value.slice A' k c').ownBlock = some b) wr w1.heap.size (leftF ilt k li) wr))
  case atStart =>
    exact ⟨0, none, 0, rfl, by omega, rfl, World.ownsRow_nil _ _ _ _, HBI.out, heap_start_beside HHI.out HBI.out.size⟩
  case round =>
    obtain ⟨k, A', c', rfl, hk, rfl, HO, HB, HI⟩ := hrel
    by_cases hlt : k < l.length
    · have hps := popsF_succ ilt 0 k li
      have hls := leftF_succ ilt k li
      have hpop := ints_heapPop _ wr w1.heap.size (leftF ilt k li) wr HI.out (by rw [leftF_length, HL.out]; omega) (by rw [leftF_length, HL.out]; omega)
      rw [← hls] at hpop
      obtain ⟨xk, hX⟩ : ∃ x, popTop ilt 0 (leftF ilt k li) = x := ⟨_, rfl⟩
      rw [hX] at hpop hps
      have HPS := Lib.hid hps
      have HPOP := Lib.hid hpop
      clear hps hls hpop hX
      have hta := assert_ints ((Value.int .i64) xk)
      have hkl : k + 1 ≤ l.length := hlt
      have hk' := Lib.hid hk
      clear hk
      go_wp2_with (first
        | (go_at_call 15
           refine HPOP.out.mono ?_
           rintro e w2 ⟨rfl, hI2⟩
           have HI2 := Lib.hid hI2
           have HO2 := Lib.hid (own_kept HO.out hI2.kept (fun g hg => .inr hg))
           have HB2 := Lib.hid (HB.out.trans (hI2.kept.below (fun b hb => .inl hb)))
           clear hI2)
        | (at_builtin
           (refine wpList_append_row _ rfl (.tmp 13) (.tmp 17) 22 rfl w.heap.size 3 i0 _ 1 8 Try.underlying22 hi hz0 hz1 hz2 rfl (by decide) (.slice A' k c') k ((popsF ilt 0 k li).map (Value.int .i64)) rfl ?_ (w2.heap.size + 1) (some ⟨w2.heap.size, 0, none⟩) 1 1 [(Value.int .i64) xk] rfl ?_ (one_cell _) ?_ ?_ ?_ ?_)
           · exact HO2.out.alloc _
           · exact sees_new rfl
           · unfold maxLen; omega
           · omega
           · have := HB2.out.size; simp; omega
           intro A3 c3 w3 hown hg hat
           have HO3 := Lib.hid hown
           have HB3 := Lib.hid ((HB2.out.alloc HB2.out.size _).grown hg (by have := HB2.out.size; simp; omega) (fun g hgg => (HO.out.lt g hgg).1))
           have HI3 := Lib.hid (heap_beside HI2.out (World.grownBy_alloc _ _ none) hg hat (own_lt hown) HB3.out.size)
           clear hown hg hat))
      go_roundg (l.length - (k + 1))
      case measure => have := hk'.out; omega
      case rel => exact ⟨k + 1, A3, c3, by go_num, by omega, rfl, by rw [HPS.out, List.map_append]; exact HO3, HB3, HI3⟩
    · obtain rfl : k = l.length := by omega
      go_wp2
      go_ret
      refine ⟨A', c', ?_, ?_, HB.out⟩
      · rw [sortF_length]; rfl
      · rw [sortF_length, HSF.out]; exact HO.out
end Go.Proofs.Ytjnlolidjbbddaa
