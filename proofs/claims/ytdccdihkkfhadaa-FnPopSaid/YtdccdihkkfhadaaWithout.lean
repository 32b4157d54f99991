/- The laws' own functions on items: withoutItem. -/
import Derived.Test.YtdccdihkkfhadaaLawFns
namespace Go.Proofs.Ytdccdihkkfhadaa
set_option linter.unusedVariables false
open Go.RowKit

theorem erase_take_hit (l : List (Int × Int)) (k : Nat) (h : k < l.length) (y : Int × Int) (e : l[k] = y) (hn : ¬ y ∈ l.take k) : (l.take (k + 1)).erase y = (l.take k).erase y ∧ y ∈ l.take (k + 1) := by
  rw [List.take_succ_eq_append_getElem h, e]
  refine ⟨?_, by simp⟩
  rw [List.erase_append_right _ hn, List.erase_of_not_mem hn]
  simp
theorem erase_take_keep (l : List (Int × Int)) (k : Nat) (h : k < l.length) (y : Int × Int) (e : ¬ l[k] = y ∨ y ∈ l.take k) : (l.take (k + 1)).erase y = (l.take k).erase y ++ [l[k]] ∧ decide (y ∈ l.take (k + 1)) = decide (y ∈ l.take k) := by
  rw [List.take_succ_eq_append_getElem h]
  by_cases hy : y ∈ l.take k
  · exact ⟨List.erase_append_left _ hy, by rw [decide_eq_decide, List.mem_append]; exact ⟨fun _ => hy, Or.inl⟩⟩
  · have e : ¬ l[k] = y := e.resolve_right hy
    have e' : ¬ y = l[k] := fun h => e h.symm
    refine ⟨?_, by rw [decide_eq_decide, List.mem_append, List.mem_singleton]; exact ⟨fun h => h.resolve_right e', Or.inl⟩⟩
    rw [List.erase_append_right _ hy, List.erase_of_not_mem hy, List.erase_of_not_mem (by simp [e'])]

set_option maxHeartbeats 400000 in
theorem withoutItem_any (A : Option Addr) (c : Nat) (l : List (Int × Int)) (y0 y1 : Int) (w : World) (hs : Sees w w.heap.size 2 A l.length (ics l)) (hn : l.length * 16 ≤ 140737488355328) :
    Calls Try.prog 28 #[.slice A l.length c, .agg #[.int .i64 y0, .int .i64 y1]] w (NewItems w (l.erase (y0, y1))) := by
  obtain ⟨i0, hi, hz0, hz1, hz2⟩ := info_parts info_item
  have HS := Lib.hid hs
  clear hs
  go_enter Try.func28, Try.ntmps28
  go_wp2
  go_loopg [5, 6, 11] l.length (fun m v gone i wr => ∃ (k n : Nat) (A' : Option Addr) (c' : Nat) (gb : Bool), i = .int .i64 k ∧ k + m = l.length ∧ v = .slice A' n c' ∧ gone = .bool gb ∧ Hid (gb = decide ((y0, y1) ∈ l.take k)) ∧ Hid (n = ((l.take k).erase (y0, y1)).length) ∧ Hid (wr.ownsRow (w.heap.size + 1) 32 2 (.slice A' n c') n (ics ((l.take k).erase (y0, y1)))) ∧ Hid (Blk wr w.heap.size 32 #[.int .i64 y0, .int .i64 y1]) ∧ Hid (Below w.heap.size w wr))
  case atStart => exact ⟨0, 0, none, 0, false, rfl, by omega, rfl, rfl, by simp [Hid], rfl, World.ownsRow_nil _ _ _ _, Blk.new _ _ _, (Below.refl _ _).alloc (Nat.le_refl _) _⟩
  case round =>
    obtain ⟨k, n, A', c', gb, rfl, hk, rfl, rfl, HG, HN, HO, HK, HB⟩ := hrel
    have hnk : n ≤ k := by
      have h1 := HN.out
      have h2 := List.length_erase_le (l := l.take k) (a := (y0, y1))
      have h3 : (l.take k).length ≤ k := List.length_take_le _ _
      omega
    by_cases hlt : k < l.length
    · obtain ⟨b, off, rfl, hbw, hc⟩ := HS.out.cellAt (by omega) HB.out
      have c0 := hc (k * 2) _ (ics_key l k hlt)
      have c1 := hc (k * 2 + 1) _ (ics_tag l k hlt)
      clear hc
      rw [← Nat.add_assoc] at c1
      have hhit := erase_take_hit l k hlt (y0, y1)
      have hkeep := erase_take_keep l k hlt (y0, y1)
      have hbw' : b < wr.heap.size := Nat.lt_of_lt_of_le hbw HB.out.size
      have hww : w.heap.size < wr.heap.size := HK.out.lt
      have d0 : wr.cell? ⟨w.heap.size, 0, none⟩ = some (.int .i64 y0) := HK.out.cell 0
      have d1 : wr.cell? ⟨w.heap.size, 1, none⟩ = some (.int .i64 y1) := HK.out.cell 1
      have hno : (Value.slice A' n c').ownBlock ≠ some w.heap.size := fun e => by have := (HO.out.lt _ e).1; omega
      have hk' := Lib.hid hk
      clear hk
      have hkl : k + 1 ≤ l.length := hlt
      obtain ⟨⟨x0, x1⟩, hx⟩ : ∃ x, l[k] = x := ⟨_, rfl⟩
      rw [hx] at c0 c1 hhit hkeep
      clear hx
      dsimp only at c0 c1
      by_cases hkp : ¬ (x0, x1) = (y0, y1) ∨ (y0, y1) ∈ l.take k
      · have HKP := Lib.hid (hkeep hkp)
        have HT := Lib.hid hkp
        have hsz1 := HB.out.size
        clear hhit hkeep hkp
        have fin : ∀ (A2 : Option Addr) (c2 : Nat) (w2 : World), w2.ownsRow (w.heap.size + 1) 32 2 (.slice A2 (n + 1) c2) (n + 1) (ics ((l.take k).erase (y0, y1)) ++ [.int .i64 x0, .int .i64 x1]) →
            Blk w2 w.heap.size 32 #[.int .i64 y0, .int .i64 y1] → Below w.heap.size w w2 → ∃ (k' n' : Nat) (A' : Option Addr) (c' : Nat) (gb' : Bool), Value.int .i64 ((k : Int) + 1) = .int .i64 (k' : Nat) ∧ k' + (l.length - (k + 1)) = l.length ∧ Value.slice A2 (n + 1) c2 = .slice A' n' c' ∧ Value.bool gb = .bool gb' ∧ Hid (gb' = decide ((y0, y1) ∈ l.take k')) ∧ Hid (n' = ((l.take k').erase (y0, y1)).length) ∧ Hid (w2.ownsRow (w.heap.size + 1) 32 2 (.slice A' n' c') n' (ics ((l.take k').erase (y0, y1)))) ∧ Hid (Blk w2 w.heap.size 32 #[.int .i64 y0, .int .i64 y1]) ∧ Hid (Below w.heap.size w w2) := by
          intro A2 c2 w2 h1 h2 h3
          refine ⟨k + 1, n + 1, A2, c2, gb, by go_num, by omega, rfl, rfl, Lib.hid (HG.out.trans HKP.out.2.symm), Lib.hid ?_, Lib.hid ?_, h2, h3⟩
          · rw [HKP.out.1, List.length_append, ← HN.out]; rfl
          · rw [HKP.out.1, ics_append]; exact h1
        have FIN := Lib.hid fin
        clear fin
        by_cases h0 : x0 = y0
        · by_cases h1 : x1 = y1
          · have hgb : gb = true := by
              rw [HG.out]
              exact decide_eq_true (HT.out.resolve_left (by simp [h0, h1]))
            subst hgb
            have e0 : (x0 == y0) = true := by simp [h0]
            have e1 : (x1 == y1) = true := by simp [h1]
            clear h0 h1
            go_wp2_with (
                       at_builtin
                       (refine wpList_append_row _ rfl (.tmp 22) (.tmp 24) 23 rfl (w.heap.size + 1) 32 i0 _ 2 16 Try.underlying23 hi hz0 hz1 hz2 rfl (by decide) (.slice A' n c') n (ics ((l.take k).erase (y0, y1))) rfl ?_ (wr.heap.size + 2) (some ⟨wr.heap.size + 1, 0, none⟩) 1 1 [.int .i64 x0, .int .i64 x1] rfl ?_ (two_cells _ _) ?_ ?_ ?_ ?_)
                       · exact (HO.out.alloc _).alloc _
                       · exact sees_new2 rfl
                       · unfold maxLen; omega
                       · omega
                       · have := HB.out.size; simp; omega
                       intro A2 c2 w2 hown hg _
                       have HO2 := Lib.hid hown
                       have HK2 := Lib.hid (show Blk w2 w.heap.size 32 #[.int .i64 y0, .int .i64 y1] from ((HK.out.alloc _).alloc _).grown hg (fun e => hno (e.symm)))
                       have HB2 := Lib.hid (((HB.out.alloc HB.out.size _).alloc (by have := HB.out.size; simp; omega) _).grown hg (by have := HB.out.size; simp; omega) (fun g hgg => by have := (HO.out.lt g hgg).1; omega))
                       clear hown hg)
            go_roundg (l.length - (k + 1))
            case measure => have := hk'.out; omega
            case rel => exact FIN.out A2 c2 w2 HO2.out HK2.out HB2.out
          · have e0 : (x0 == y0) = true := by simp [h0]
            have e1 : (x1 == y1) = false := beq_eq_false_iff_ne.2 h1
            clear h0 h1
            go_wp2_with (
                       at_builtin
                       (refine wpList_append_row _ rfl (.tmp 22) (.tmp 24) 23 rfl (w.heap.size + 1) 32 i0 _ 2 16 Try.underlying23 hi hz0 hz1 hz2 rfl (by decide) (.slice A' n c') n (ics ((l.take k).erase (y0, y1))) rfl ?_ (wr.heap.size + 2) (some ⟨wr.heap.size + 1, 0, none⟩) 1 1 [.int .i64 x0, .int .i64 x1] rfl ?_ (two_cells _ _) ?_ ?_ ?_ ?_)
                       · exact (HO.out.alloc _).alloc _
                       · exact sees_new2 rfl
                       · unfold maxLen; omega
                       · omega
                       · have := HB.out.size; simp; omega
                       intro A2 c2 w2 hown hg _
                       have HO2 := Lib.hid hown
                       have HK2 := Lib.hid (show Blk w2 w.heap.size 32 #[.int .i64 y0, .int .i64 y1] from ((HK.out.alloc _).alloc _).grown hg (fun e => hno (e.symm)))
                       have HB2 := Lib.hid (((HB.out.alloc HB.out.size _).alloc (by have := HB.out.size; simp; omega) _).grown hg (by have := HB.out.size; simp; omega) (fun g hgg => by have := (HO.out.lt g hgg).1; omega))
                       clear hown hg)
            go_roundg (l.length - (k + 1))
            case measure => have := hk'.out; omega
            case rel => exact FIN.out A2 c2 w2 HO2.out HK2.out HB2.out
        · have e0 : (x0 == y0) = false := beq_eq_false_iff_ne.2 h0
          clear h0
          go_wp2_with (
                       at_builtin
                       (refine wpList_append_row _ rfl (.tmp 22) (.tmp 24) 23 rfl (w.heap.size + 1) 32 i0 _ 2 16 Try.underlying23 hi hz0 hz1 hz2 rfl (by decide) (.slice A' n c') n (ics ((l.take k).erase (y0, y1))) rfl ?_ (wr.heap.size + 2) (some ⟨wr.heap.size + 1, 0, none⟩) 1 1 [.int .i64 x0, .int .i64 x1] rfl ?_ (two_cells _ _) ?_ ?_ ?_ ?_)
                       · exact (HO.out.alloc _).alloc _
                       · exact sees_new2 rfl
                       · unfold maxLen; omega
                       · omega
                       · have := HB.out.size; simp; omega
                       intro A2 c2 w2 hown hg _
                       have HO2 := Lib.hid hown
                       have HK2 := Lib.hid (show Blk w2 w.heap.size 32 #[.int .i64 y0, .int .i64 y1] from ((HK.out.alloc _).alloc _).grown hg (fun e => hno (e.symm)))
                       have HB2 := Lib.hid (((HB.out.alloc HB.out.size _).alloc (by have := HB.out.size; simp; omega) _).grown hg (by have := HB.out.size; simp; omega) (fun g hgg => by have := (HO.out.lt g hgg).1; omega))
                       clear hown hg)
          go_roundg (l.length - (k + 1))
          case measure => have := hk'.out; omega
          case rel => exact FIN.out A2 c2 w2 HO2.out HK2.out HB2.out
      · have hx : (x0, x1) = (y0, y1) := Classical.byContradiction fun h => hkp (.inl h)
        have hny : ¬ (y0, y1) ∈ l.take k := fun h => hkp (.inr h)
        have HH := Lib.hid (hhit hx hny)
        obtain ⟨rfl, rfl⟩ : x0 = y0 ∧ x1 = y1 := by simpa using hx
        have hgb : gb = false := by rw [HG.out]; exact decide_eq_false hny
        subst hgb
        clear hhit hkeep hkp hx hny
        go_wp2
        go_roundg (l.length - (k + 1))
        case measure => have := hk'.out; omega
        case rel => exact ⟨k + 1, n, A', c', true, by go_num, by omega, rfl, rfl, Lib.hid (decide_eq_true HH.out.2).symm, Lib.hid (by rw [HH.out.1]; exact HN.out), Lib.hid (by rw [HH.out.1]; exact HO.out.alloc _), HK.out.alloc _, HB.out.alloc HB.out.size _⟩
    · obtain rfl : k = l.length := by omega
      rw [List.take_length] at HO HN
      have HN' := HN
      go_wp2
      go_ret
      exact ⟨A', c', by rw [← HN'.out]; rfl, by rw [← HN'.out]; exact own_base HO.out (by omega), HB.out⟩
end Go.Proofs.Ytdccdihkkfhadaa
