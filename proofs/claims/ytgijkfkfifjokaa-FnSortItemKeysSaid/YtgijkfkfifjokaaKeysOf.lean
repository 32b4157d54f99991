/- The laws' own functions on items: keysOf; numbers in a new slice. -/
import Derived.Test.YtgijkfkfifjokaaLawFns
import Derived.Test.YtgijkfkfifjokaaNums
namespace Go.Proofs.Ytgijkfkfifjokaa
set_option linter.unusedVariables false
open Go.RowKit

theorem keys_snoc (l : List (Int × Int)) (k : Nat) (h : k < l.length) : ((l.take (k + 1)).map (·.1)).map (Value.int .i64) = ((l.take k).map (·.1)).map (Value.int .i64) ++ [.int .i64 l[k].1] := by
  rw [List.take_succ_eq_append_getElem h, List.map_append, List.map_append]; rfl

set_option maxHeartbeats 400000 in
theorem keysOf_any (A : Option Addr) (c : Nat) (l : List (Int × Int)) (w : World) (hs : Sees w w.heap.size 2 A l.length (ics l)) (hn : l.length * 16 ≤ 140737488355328) :
    Calls Try.prog 26 #[.slice A l.length c] w (NewNums w (l.map (·.1))) := by
  obtain ⟨i0, hi, hz0, hz1, hz2⟩ := info_parts info_int
  have HS := Lib.hid hs
  clear hs
  go_enter Try.func26, Try.ntmps26
  go_wp2
  go_loopg [3, 8] l.length (fun m v i wr => ∃ (k : Nat) (A' : Option Addr) (c' : Nat), i = .int .i64 k ∧ k + m = l.length ∧ v = .slice A' k c' ∧ Hid (wr.ownsRow w.heap.size 3 1 (.slice A' k c') k (((l.take k).map (·.1)).map (Value.int .i64))) ∧ Hid (Below w.heap.size w wr))
  case atStart => exact ⟨0, none, 0, rfl, by omega, rfl, World.ownsRow_nil _ _ _ _, Below.refl _ _⟩
  case round =>
    obtain ⟨k, A', c', rfl, hk, rfl, HO, HB⟩ := hrel
    by_cases hlt : k < l.length
    · have hsn := Lib.hid (keys_snoc l k hlt)
      obtain ⟨b, off, rfl, hbw, hc⟩ := HS.out.cellAt (by omega) HB.out
      have c0 := hc (k * 2) _ (ics_key l k hlt)
      have c1 := hc (k * 2 + 1) _ (ics_tag l k hlt)
      clear hc
      rw [← Nat.add_assoc] at c1
      generalize l[k].1 = xk at *
      generalize l[k].2 = xt at *
      have hbw' : b < wr.heap.size := Nat.lt_of_lt_of_le hbw HB.out.size
      have hkl : k + 1 ≤ l.length := hlt
      have hk' := Lib.hid hk
      clear hk
      go_wp2_with (at_builtin
                   (refine wpList_append_row _ rfl (.tmp 12) (.tmp 15) 25 rfl w.heap.size 3 i0 _ 1 8 Try.underlying25 hi hz0 hz1 hz2 rfl (by decide) (.slice A' k c') k (((l.take k).map (·.1)).map (Value.int .i64)) rfl ?_ (wr.heap.size + 2) (some ⟨wr.heap.size + 1, 0, none⟩) 1 1 [.int .i64 xk] rfl ?_ (one_cell _) ?_ ?_ ?_ ?_)
                   · exact (HO.out.alloc _).alloc _
                   · exact sees_new2 rfl
                   · unfold maxLen; omega
                   · omega
                   · have := HB.out.size; simp; omega
                   intro A2 c2 w2 hown hg _
                   have HO2 := Lib.hid hown
                   have HB2 := Lib.hid (((HB.out.alloc HB.out.size _).alloc (by have := HB.out.size; simp; omega) _).grown hg (by have := HB.out.size; simp; omega) (fun g hgg => (HO.out.lt g hgg).1))
                   clear hown hg)
      go_roundg (l.length - (k + 1))
      case measure => have := hk'.out; omega
      case rel => exact ⟨k + 1, A2, c2, by go_num, by omega, rfl, by rw [hsn.out]; exact HO2, HB2⟩
    · obtain rfl : k = l.length := by omega
      go_wp2
      go_ret
      rw [List.take_length] at HO
      exact ⟨A', c', by rw [List.length_map]; rfl, by rw [List.length_map]; exact HO.out, HB.out⟩
end Go.Proofs.Ytgijkfkfifjokaa
