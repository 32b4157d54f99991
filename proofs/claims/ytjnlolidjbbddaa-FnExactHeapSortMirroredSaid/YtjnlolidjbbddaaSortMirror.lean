/- HeapSortMirrored. -/
import Derived.Test.YtjnlolidjbbddaaMirAt
import Derived.Deep.RegionWith
namespace Go.Proofs.Ytjnlolidjbbddaa
set_option linter.unusedVariables false
open Go.RowKit

theorem drop_rev (l : List Int) (k : Nat) (h : k < l.length) : (l.drop k).reverse = (l.drop (k + 1)).reverse ++ [l[k]] := by
  rw [← List.getElem_cons_drop h, List.reverse_cons]

set_option maxHeartbeats 1600000 in
theorem sortMirrored_any (A : Option Addr) (c : Nat) (l : List Int) (w : World) (hs : Sees w w.heap.size 1 A l.length (l.map (Value.int .i64))) (hn : l.length * 8 ≤ 140737488355328) :
    Calls Try.prog 7 #[.slice A l.length c] w (NewNums w (sortF ilt 0 l)) := by
  obtain ⟨i0, hi, hz0, hz1, hz2⟩ := info_parts info_int
  have HS := Lib.hid hs
  clear hs
  go_enter Try.func7, Try.ntmps7
  go_wp2_with fail
  have H0 := Lib.hid (show IntsAt TM [] (· < w.heap.size) w w.heap.size (l.drop l.length).reverse (w.alloc (.cells #[.slice none 0 0] TM)) by
    rw [List.drop_length]
    exact heapAt_new (l := []) (c := 0) (World.ownsRow_nil _ _ _ _) (Below.refl _ _) (Nat.le_refl _))
  go_loopg [4] l.length (fun m i wr => i = .int .i64 ((m : Int) - 1) ∧ m ≤ l.length ∧ Hid (IntsAt TM [] (· < w.heap.size) w w.heap.size (l.drop m).reverse wr))
  case atStart => exact ⟨rfl, Nat.le_refl _, H0⟩
  case round =>
    clear H0
    obtain ⟨rfl, hm, HI⟩ := hrel
    by_cases h0 : gk = 0
    · subst h0
      rw [show ((0 : Nat) : Int) - 1 = -1 from rfl]
      have HH := Lib.hid (show MirAt (· < w.heap.size) w w.heap.size l wr by
        have := mir_of_ints HI.out
        rwa [List.drop_zero, List.reverse_reverse] at this)
      clear HI
      have HIM := Lib.hid (mir_impl (· < w.heap.size) w w.heap.size (3 * l.length * (l.length / 2)) l.length (by omega))
      go_wp2_with fail
      refine (init_any HIM.out l _ l.length ⟨HH.out, Nat.le_refl _⟩ rfl (by omega) (by show 0 + _ ≤ _; omega)).mono ?_
      rintro e w0 ⟨rfl, hR, _⟩
      have hsf : sortF ilt 0 l = popsF ilt 0 l.length (initM (listM ilt) l.length (l.length / 2) l) := rfl
      have hnl : (initM (listM ilt) l.length (l.length / 2) l).length = l.length := initM_length ilt l
      generalize initM (listM ilt) l.length (l.length / 2) l = li at *
      have HL := Lib.hid hnl
      have HSF := Lib.hid hsf
      have HHI := Lib.hid hR
      have HBI := Lib.hid (hR.kept.below (B := w.heap.size) fun _ h => h)
      clear hR hnl HH hsf
      go_wp2_with fail
      go_loopg [5, 24] l.length (fun m v i wr => ∃ (k : Nat) (A' : Option Addr) (c' : Nat), i = .int .i64 k ∧ k + m = l.length ∧ v = .slice A' k c' ∧ Hid (wr.ownsRow w.heap.size 3 1 (.slice A' k c') k ((popsF ilt 0 k li).map (Value.int .i64))) ∧ Hid (Below w.heap.size w wr) ∧ Hid (MirAt (fun b => b < w.heap.size ∨ (Value.slice A' k c').ownBlock = some b) wr w.heap.size (leftF ilt k li) wr))
      case atStart =>
        exact ⟨0, none, 0, rfl, by omega, rfl, World.ownsRow_nil _ _ _ _, HBI.out, mir_start_beside HHI.out HBI.out.size⟩
      case round =>
        obtain ⟨k, A', c', rfl, hk, rfl, HO, HB, HI⟩ := hrel
        by_cases hlt : k < l.length
        · have hps := popsF_succ ilt 0 k li
          have hls := leftF_succ ilt k li
          have hpop := mir_heapPop _ wr w.heap.size (leftF ilt k li) wr HI.out (by rw [leftF_length, HL.out]; omega) (by rw [leftF_length, HL.out]; omega)
          rw [← hls] at hpop
          obtain ⟨xk, hX⟩ : ∃ x, popTop ilt 0 (leftF ilt k li) = x := ⟨_, rfl⟩
          rw [hX] at hpop hps
          have HPS := Lib.hid hps
          have HPOP := Lib.hid hpop
          clear hps hls hpop hX
          have hta := assert_ints ((Value.int .i64) xk)
          have hkl : k + 1 ≤ l.length := hlt
          have hk' := Lib.hid hk
          clear hk
          go_wp2_with (first
            | (go_at_call 15
               refine HPOP.out.mono ?_
               rintro e w2 ⟨rfl, hI2⟩
               have HI2 := Lib.hid hI2
               have HO2 := Lib.hid (own_kept HO.out hI2.kept (fun g hg => .inr hg))
               have HB2 := Lib.hid (HB.out.trans (hI2.kept.below (fun b hb => .inl hb)))
               clear hI2)
            | (at_builtin
               (refine wpList_append_row _ rfl (.tmp 26) (.tmp 30) 22 rfl w.heap.size 3 i0 _ 1 8 Try.underlying22 hi hz0 hz1 hz2 rfl (by decide) (.slice A' k c') k ((popsF ilt 0 k li).map (Value.int .i64)) rfl ?_ (w2.heap.size + 1) (some ⟨w2.heap.size, 0, none⟩) 1 1 [(Value.int .i64) xk] rfl ?_ (one_cell _) ?_ ?_ ?_ ?_)
               · exact HO2.out.alloc _
               · exact sees_new rfl
               · unfold maxLen; omega
               · omega
               · have := HB2.out.size; simp; omega
               intro A3 c3 w3 hown hg hat
               have HO3 := Lib.hid hown
               have HB3 := Lib.hid ((HB2.out.alloc HB2.out.size _).grown hg (by have := HB2.out.size; simp; omega) (fun g hgg => (HO.out.lt g hgg).1))
               have HI3 := Lib.hid (mir_beside HI2.out (World.grownBy_alloc _ _ none) hg hat (own_lt hown) HB3.out.size)
               clear hown hg hat))
          go_roundg (l.length - (k + 1))
          case measure => have := hk'.out; omega
          case rel => exact ⟨k + 1, A3, c3, by go_num, by omega, rfl, by rw [HPS.out, List.map_append]; exact HO3, HB3, HI3⟩
        · obtain rfl : k = l.length := by omega
          go_wp2
          go_ret
          refine ⟨A', c', ?_, ?_, HB.out⟩
          · rw [sortF_length]; rfl
          · rw [sortF_length, HSF.out]; exact HO.out
    · obtain ⟨k, rfl⟩ : ∃ k, gk = k + 1 := ⟨gk - 1, by omega⟩
      have h1 : ((k + 1 : Nat) : Int) - 1 = (k : Int) := by omega
      rw [h1]
      clear h1 h0
      have hlt : k < l.length := by omega
      have hdr := drop_rev l k hlt
      obtain ⟨b, off, rfl, hbw, hc⟩ := HS.out.cellAt (by omega) (HI.out.kept.below (B := w.heap.size) fun _ h => h)
      have c0 := hc k _ (nums_at l k hlt)
      clear hc
      have hln : ((l.drop (k + 1)).reverse).length ≤ l.length - (k + 1) := by simp
      generalize l[k] = x at *
      generalize (l.drop (k + 1)).reverse = xs at *
      have HDR := Lib.hid hdr
      clear hdr
      obtain ⟨A0, c0', hb, hown, hK⟩ := HI.out.hdr
      have HK := Lib.hid hK
      have hh : wr.cell? ⟨w.heap.size, 0, none⟩ = some (.slice A0 xs.length c0') := hb.cell 0
      have hf : wr.frozen? ⟨w.heap.size, 0, none⟩ = false := hb.frozen 0
      have ha : w.heap.size < wr.heap.size := hb.lt
      have hbw' : b < wr.heap.size := by omega
      have HB := Lib.hid hb
      have HO := Lib.hid hown
      clear hb hown hK
      go_wp2_with fail
      go_region_law ((
        (refine step_append_row _ rfl (.tmp 13) (.tmp 18) TM rfl 0 3 i0 _ 1 8 Try.underlying28 hi hz0 hz1 hz2 rfl (by decide) (.slice A0 xs.length c0') xs.length (xs.map (Value.int .i64)) rfl ?_ (wr.heap.size + 1) (some ⟨wr.heap.size, 0, none⟩) 1 1 [(Value.int .i64) x] rfl ?_ ?_ ?_ ?_ ?_ ?_)
        · exact (HO.out.alloc _).drew
        · exact (sees_new rfl).drew
        · exact one_cell _
        · unfold maxLen; omega
        · omega
        · exact Nat.zero_le _
        intro A' c' w1 hown1 hgr1 hat1
        have hb1 : Blk w1 w.heap.size TM #[.slice A0 xs.length c0'] := (HB.out.alloc _).drew.grown hgr1 (fun e => own_blk_ne HO.out HB.out (by decide) e.symm)
        have hh1 : w1.cell? ⟨w.heap.size, 0, none⟩ = some (.slice A0 xs.length c0') := hb1.cell 0
        have hf1 : w1.frozen? ⟨w.heap.size, 0, none⟩ = false := hb1.frozen 0
        have hl1 : w.heap.size < w1.heap.size := hb1.lt
        have HB1 := Lib.hid hb1
        have HO1 := Lib.hid hown1
        have HL1 := Lib.hid (((HI.out.kept.alloc HI.out.klt _).drew).grown hgr1 HI.out.klt (fun g hg => HK.out g hg))
        have HK1 := Lib.hid (show ∀ g, (Value.slice A' (xs.length + 1) c').ownBlock = some g → ¬ g < w.heap.size from fun g hg => by
          rcases hat1 with e | e
          · exact HK.out g (e ▸ hg)
          · rw [e] at hg
            simp at hg
            omega)
        clear hb1 hown1 hgr1 hat1))
      all_goals go_wp2
      all_goals
        have HI' := Lib.hid (show IntsAt TM [] (· < w.heap.size) w w.heap.size (l.drop k).reverse (w1.setCell ⟨w.heap.size, 0, none⟩ (.slice A' (xs.length + 1) c')) from by
          rw [HDR.out]
          refine ⟨HL1.out.setCell HI.out.na _, HI.out.klt, HI.out.na, A', c', ?_, ?_, ?_⟩
          all_goals rw [show (xs ++ [x]).length = xs.length + 1 by simp]
          · exact HB1.out.set_ 0 _
          · rw [List.map_append]; exact own_setCell_other HO1.out (own_blk_ne HO1.out HB1.out (by decide)) _
          · exact HK1.out)
        go_roundg k
      all_goals first | omega | exact ⟨rfl, by omega, HI'⟩
end Go.Proofs.Ytjnlolidjbbddaa
