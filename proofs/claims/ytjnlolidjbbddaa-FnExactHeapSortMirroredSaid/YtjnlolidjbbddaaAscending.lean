/- The spec's sorts of numbers: ascending, HeapSortInts and its like, HeapSortGreatest. -/
import Derived.Test.YtjnlolidjbbddaaRanked
namespace Go.Proofs.Ytjnlolidjbbddaa
set_option linter.unusedVariables false
open Go.RowKit

theorem asc_snoc (l : List Int) (k : Nat) (h : k < l.length) : ((sortF ilt 0 l).take (k + 1)).map (Value.int .i64) = ((sortF ilt 0 l).take k).map (Value.int .i64) ++ [.int .i64 (rankF l k)] := by
  rw [List.take_succ_eq_append_getElem (by rw [sortF_length]; exact h), List.map_append, rankF_get l h]; rfl

set_option maxHeartbeats 800000 in
theorem ascending_any (A : Option Addr) (c : Nat) (l : List Int) (many : Int) (w : World) (hs : Sees w w.heap.size 1 A l.length (l.map (Value.int .i64))) (hn : l.length * 8 ≤ 140737488355328) :
    Calls Try.prog 13 #[.slice A l.length c, .int .i64 many] w (NewNums w ((sortF ilt 0 l).take many.toNat)) := by
  obtain ⟨i0, hi, hz0, hz1, hz2⟩ := info_parts info_int
  have HS := Lib.hid hs
  have HLEN := Lib.hid (sortF_length 0 ilt l)
  clear hs
  go_enter Try.func13, Try.ntmps13
  go_wp2
  go_loopg [5, 6] l.length (fun m v i wr => ∃ (k : Nat) (A' : Option Addr) (c' : Nat), i = .int .i64 k ∧ k + m = l.length ∧ (k : Int) ≤ max many 0 ∧ v = .slice A' k c' ∧ Hid (wr.ownsRow w.heap.size 3 1 (.slice A' k c') k (((sortF ilt 0 l).take k).map (Value.int .i64))) ∧ Hid (Below w.heap.size w wr))
  case atStart => exact ⟨0, none, 0, rfl, by omega, by omega, rfl, World.ownsRow_nil _ _ _ _, Below.refl _ _⟩
  case round =>
    obtain ⟨k, A', c', rfl, hk, hkm, rfl, HO, HB⟩ := hrel
    by_cases hm : (k : Int) < many
    · have t1 : decide ((k : Int) < many) = true := decide_eq_true hm
      by_cases hlt : k < l.length
      · have t2 : decide ((k : Int) < (l.length : Int)) = true := decide_eq_true (by omega)
        have hsn := Lib.hid (asc_snoc l k hlt)
        have HR := Lib.hid (ranked_any A c l k wr _ (HS.out.below HB.out) hlt (by omega))
        have hkl : k + 1 ≤ l.length := hlt
        have hk' := Lib.hid hk
        clear hk
        generalize rankF l k = xk at *
        go_wp2_with (first
          | (go_at_call 16
             refine HR.out.mono ?_
             rintro e w' ⟨rfl, rfl⟩)
          | (at_builtin
             (refine wpList_append_row _ rfl (.tmp 18) (.tmp 22) 22 rfl w.heap.size 3 i0 _ 1 8 Try.underlying22 hi hz0 hz1 hz2 rfl (by decide) (.slice A' k c') k (((sortF ilt 0 l).take k).map (Value.int .i64)) rfl ?_ (wr.heap.size + 1) (some ⟨wr.heap.size, 0, none⟩) 1 1 [.int .i64 xk] rfl ?_ (one_cell _) ?_ ?_ ?_ ?_)
             · exact HO.out.alloc _
             · exact sees_new rfl
             · unfold maxLen; omega
             · omega
             · have := HB.out.size; simp; omega
             intro A2 c2 w2 hown hg _
             have HO2 := Lib.hid hown
             have HB2 := Lib.hid ((HB.out.alloc HB.out.size _).grown hg (by have := HB.out.size; simp; omega) (fun g hgg => (HO.out.lt g hgg).1))
             clear hown hg))
        go_roundg (l.length - (k + 1))
        case measure => have := hk'.out; omega
        case rel => exact ⟨k + 1, A2, c2, by go_num, by omega, by omega, rfl, by rw [hsn.out]; exact HO2, HB2⟩
      · obtain rfl : k = l.length := by omega
        have t2 : decide ((l.length : Int) < (l.length : Int)) = false := decide_eq_false (by omega)
        have HE := Lib.hid (show (sortF ilt 0 l).take many.toNat = (sortF ilt 0 l).take l.length by rw [List.take_of_length_le (by rw [sortF_length]; omega), List.take_of_length_le (by rw [sortF_length]; omega)])
        go_wp2
        go_ret
        have hl2 : ((sortF ilt 0 l).take l.length).length = l.length := by rw [List.length_take, sortF_length, Nat.min_self]
        exact ⟨A', c', by rw [HE.out, hl2]; rfl, by rw [HE.out, hl2]; exact HO.out, HB.out⟩
    · have t1 : decide ((k : Int) < many) = false := decide_eq_false hm
      obtain HK : many.toNat = k := by omega
      have HK' := Lib.hid HK
      clear HK
      go_wp2
      go_ret
      have hl2 : ((sortF ilt 0 l).take k).length = k := by rw [List.length_take, sortF_length]; omega
      exact ⟨A', c', by rw [HK'.out, hl2]; rfl, by rw [HK'.out, hl2]; exact HO.out, HB.out⟩



set_option maxHeartbeats 400000 in
theorem specSortMirrored_any (A : Option Addr) (c : Nat) (l : List Int) (w : World) (hs : Sees w w.heap.size 1 A l.length (l.map (Value.int .i64))) (hn : l.length * 8 ≤ 140737488355328) :
    Calls Try.prog 5 #[.slice A l.length c] w (NewNums w (sortF ilt 0 l)) := by
  have HA := Lib.hid (newn_eq (ascending_any A c l l.length w hs hn) (show (sortF ilt 0 l).take (l.length : Int).toNat = sortF ilt 0 l from List.take_of_length_le (by rw [sortF_length]; simp)))
  clear hs
  go_enter Try.func5, Try.ntmps5
  go_wp2_with (go_at_call 13
               refine HA.out.mono ?_
               rintro e w' ⟨A1, c1, rfl, ho, hb⟩)
  go_ret
  exact ⟨A1, c1, rfl, ho, hb⟩


end Go.Proofs.Ytjnlolidjbbddaa
