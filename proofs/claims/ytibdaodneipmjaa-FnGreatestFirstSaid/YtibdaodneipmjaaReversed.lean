/- reversed: the numbers from the last one to the first. -/
import Derived.Test.YtibdaodneipmjaaNums
namespace Go.Proofs.Ytibdaodneipmjaa
set_option linter.unusedVariables false
open Go.RowKit

theorem rev_snoc (l : List Int) (k : Nat) (h : k < l.length) : ((l.reverse).take (k + 1)).map (Value.int .i64) = ((l.reverse).take k).map (Value.int .i64) ++ [.int .i64 (l[l.length - 1 - k]'(by omega))] := by
  rw [List.take_succ_eq_append_getElem (by simpa using h), List.map_append]
  simp [List.getElem_reverse]

set_option maxHeartbeats 400000 in
theorem reversed_any (A : Option Addr) (c : Nat) (l : List Int) (w : World) (hs : Sees w w.heap.size 1 A l.length (l.map (Value.int .i64))) (hn : l.length * 8 ≤ 140737488355328) :
    Calls Try.prog 29 #[.slice A l.length c] w (NewNums w l.reverse) := by
  obtain ⟨i0, hi, hz0, hz1, hz2⟩ := info_parts info_int
  have HS := Lib.hid hs
  clear hs
  go_enter Try.func29, Try.ntmps29
  go_wp2
  go_loopg [3, 4] l.length (fun m v i wr => ∃ (k : Nat) (A' : Option Addr) (c' : Nat), i = .int .i64 ((l.length : Int) - 1 - k) ∧ k + m = l.length ∧ v = .slice A' k c' ∧ Hid (wr.ownsRow w.heap.size 3 1 (.slice A' k c') k (((l.reverse).take k).map (Value.int .i64))) ∧ Hid (Below w.heap.size w wr))
  case atStart => exact ⟨0, none, 0, by go_num, by omega, rfl, World.ownsRow_nil _ _ _ _, Below.refl _ _⟩
  case round =>
    obtain ⟨k, A', c', rfl, hk, rfl, HO, HB⟩ := hrel
    by_cases hlt : k < l.length
    · have hsn := Lib.hid (rev_snoc l k hlt)
      obtain ⟨b, off, rfl, hbw, hc⟩ := HS.out.cellAt (by omega) HB.out
      obtain ⟨j, hj⟩ : ∃ j : Nat, j = l.length - 1 - k := ⟨_, rfl⟩
      have hjl : j < l.length := by omega
      have hjz : ((l.length : Int) - 1 - k) = (j : Int) := by omega
      have c0 := hc j _ (nums_at l j hjl)
      clear hc
      have hxx : l[l.length - 1 - k]'(by omega) = l[j] := by congr 1; exact hj.symm
      rw [hxx] at hsn
      clear hxx
      generalize l[j] = xk at *
      have hj' := Lib.hid hj
      clear hj
      rw [hjz]
      have hjz' := Lib.hid hjz
      clear hjz
      have hbw' : b < wr.heap.size := Nat.lt_of_lt_of_le hbw HB.out.size
      have hkl : k + 1 ≤ l.length := hlt
      have hk' := Lib.hid hk
      clear hk
      go_wp2_with (at_builtin
                   (refine wpList_append_row _ rfl (.tmp 12) (.tmp 17) 22 rfl w.heap.size 3 i0 _ 1 8 Try.underlying22 hi hz0 hz1 hz2 rfl (by decide) (.slice A' k c') k (((l.reverse).take k).map (Value.int .i64)) rfl ?_ (wr.heap.size + 1) (some ⟨wr.heap.size, 0, none⟩) 1 1 [.int .i64 xk] rfl ?_ (one_cell _) ?_ ?_ ?_ ?_)
                   · exact HO.out.alloc _
                   · exact sees_new rfl
                   · unfold maxLen; omega
                   · omega
                   · have := HB.out.size; simp; omega
                   intro A2 c2 w2 hown hg _
                   have HO2 := Lib.hid hown
                   have HB2 := Lib.hid ((HB.out.alloc HB.out.size _).grown hg (by have := HB.out.size; simp; omega) (fun g hgg => (HO.out.lt g hgg).1))
                   clear hown hg)
      go_roundg (l.length - (k + 1))
      case measure => have := hk'.out; omega
      case rel => exact ⟨k + 1, A2, c2, by have := hjz'.out; go_num, by omega, rfl, by rw [hsn.out]; exact HO2, HB2⟩
    · obtain rfl : k = l.length := by omega
      go_wp2
      go_ret
      refine ⟨A', c', by rw [List.length_reverse]; rfl, ?_, HB.out⟩
      have := HO.out
      rw [List.take_of_length_le (by simp)] at this
      rw [List.length_reverse]; exact this
end Go.Proofs.Ytibdaodneipmjaa
