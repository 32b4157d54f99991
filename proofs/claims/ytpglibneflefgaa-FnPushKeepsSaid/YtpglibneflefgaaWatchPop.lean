/- The watched heap: its method Pop. -/
import Derived.Test.YtpglibneflefgaaWatch
import Derived.Test.YtpglibneflefgaaItemPush
import Derived.Test.YtpglibneflefgaaWatchPush
namespace Go.Proofs.Ytpglibneflefgaa
set_option linter.unusedVariables false
open Go.RowKit

/-- The last item is gone. -/
theorem wat_popped {K : Nat → Prop} {w0 : World} {a : Nat} {w : World} {xs : List (Int × Int)} {cs : List Cal} {g c n : Nat} (h : WAt K w0 a (xs, cs) w) (hx : xs.length = n + 1) (hcell : w.cell? ⟨a, 0, none⟩ = some (.slice (some ⟨g, 0, none⟩) (n + 1) c)) (o : Obj) :
    WAt K w0 a (xs.take n, cs) ((w.setCell ⟨a, 0, none⟩ (.slice (some ⟨g, 0, none⟩) n c)).alloc o) := by
  obtain ⟨A0, c0, A2, c2, hb, ho, hoc, hK1, hK2⟩ := h.hdr
  dsimp only at hb ho hK1
  rw [hx] at hb ho hK1
  have e0 : some (Value.slice A0 (n + 1) c0) = some (.slice (some ⟨g, 0, none⟩) (n + 1) c) := (hb.cell 0).symm.trans hcell
  obtain ⟨rfl, rfl⟩ : A0 = some ⟨g, 0, none⟩ ∧ c0 = c := by simpa using e0
  have hl : (xs.take n).length = n := by rw [List.length_take]; omega
  have hos := own_shrink ho
  refine WAt.alloc (s := (xs.take n, cs)) (w := w.setCell ⟨a, 0, none⟩ (.slice (some ⟨g, 0, none⟩) n c0)) ⟨h.kept.setCell h.na _, h.klt, h.na, some ⟨g, 0, none⟩, c0, A2, c2, ?_, ?_, own_setCell_other hoc (p := ⟨a, 0, none⟩) (own_blk_ne hoc hb (by decide)) _, ?_, hK2⟩ o
  · show Blk _ a TW #[.slice _ (xs.take n).length c0, .slice A2 cs.length c2]
    rw [hl]
    have h3 := hb.set_ 0 (.slice (some ⟨g, 0, none⟩) n c0)
    simpa using h3
  · show World.ownsRow _ 0 TI 2 (.slice _ (xs.take n).length c0) (xs.take n).length (ics (xs.take n))
    rw [hl, ics_take]
    exact own_setCell_other hos (own_blk_ne hos hb (by decide)) _
  · show ∀ g', (Value.slice _ (xs.take n).length c0).ownBlock = some g' → ¬ K g'
    exact fun g' hg' => hK1 g' hg'

set_option maxHeartbeats 1600000 in
theorem watched_Pop (K : Nat → Prop) (w0 : World) (a : Nat) (ys : List (Int × Int)) (cs : List Cal) (n : Nat) (k t : Int) (w : World) (h : WAt K w0 a (ys, cs) w) (hy : ys.length = n + 1) (hk : at_ (0, 0) ys n = (k, t)) (hn : n + 1 < 4611686018427387904) (hc : (cs.length + 1) * 32 ≤ 140737488355328) :
    Calls Try.prog 58 #[.pointer (some ⟨a, 0, none⟩)] w fun e w' => e = .returned (.iface TI (.agg #[.int .i64 k, .int .i64 t])) ∧ WAt K w0 a (ys.take n, cs ++ [⟨4, (n : Int) + 1, k, t⟩]) w' := by
  obtain ⟨i0, hi0, hz0, hz1, hz2⟩ := info_parts info_call
  obtain ⟨A, c, A2, c2, hb, ho, hoc, hK1, hK2⟩ := h.hdr
  obtain ⟨g, cap, hv, _, hlg⟩ := ho.form (by show 0 < ys.length; omega)
  obtain ⟨rfl, rfl⟩ : A = some ⟨g, 0, none⟩ ∧ c = cap := by simpa using hv
  have hnl : n < ys.length := by omega
  rw [at_get _ hnl] at hk
  have ck : w.cell? ⟨g, n * 2, none⟩ = some (.int .i64 k) := by rw [ho.cellAt _ (by show n * 2 < ys.length * 2; omega)]; rw [ics_key ys n hnl, hk]
  have ct : w.cell? ⟨g, n * 2 + 1, none⟩ = some (.int .i64 t) := by rw [ho.cellAt _ (by show n * 2 + 1 < ys.length * 2; omega)]; rw [ics_tag ys n hnl, hk]
  have hcap := own_cap ho
  dsimp only at hb hcap
  rw [hy] at hb hcap
  have e0 : w.cell? ⟨a, 0, none⟩ = some (.slice (some ⟨g, 0, none⟩) (n + 1) c) := hb.cell 0
  have e1 : w.cell? ⟨a, 1, none⟩ = some (.slice A2 cs.length c2) := hb.cell 1
  have f0 : w.frozen? ⟨a, 0, none⟩ = false := hb.frozen 0
  have ha : a < w.heap.size := hb.lt
  have HP := Lib.hid (items_Pop_walk a g n c w k t (by omega) hcap ha hlg e0 f0 ck ct)
  have HWP := Lib.hid (wat_popped (g := g) (c := c) h hy e0 (.cells #[.int .i64 k, .int .i64 t] TI))
  have hxl : (ys.take n).length = n := by rw [List.length_take]; omega
  clear hv h hb ho hoc hK1 hK2 hk ck ct hcap
  generalize ys.take n = xs at *
  have HXL := Lib.hid hxl
  clear hxl hy hnl
  have hta := assert_item (.agg #[.int .i64 k, .int .i64 t])
  have hfk := field_key k t
  have hft := field_tag k t
  go_enter Try.func58, Try.ntmps58
  go_wp2_with fail
  refine HP.out.mono ?_
  rintro e w2 ⟨rfl, hw2⟩
  have HH := Lib.hid (show WAt K w0 a (xs, cs) w2 by rw [hw2]; exact HWP.out)
  clear hw2 HWP HP e0 e1 f0 ha hlg
  obtain ⟨A, c', A2', c2', hb, ho, hoc, hK1, hK2⟩ := HH.out.hdr
  dsimp only at hb ho hoc hK1 hK2
  have e0 : w2.cell? ⟨a, 0, none⟩ = some (.slice A xs.length c') := hb.cell 0
  have e1 : w2.cell? ⟨a, 1, none⟩ = some (.slice A2' cs.length c2') := hb.cell 1
  have f1 : w2.frozen? ⟨a, 1, none⟩ = false := hb.frozen 1
  have ha : a < w2.heap.size := hb.lt
  have HB := Lib.hid hb
  have HO := Lib.hid ho
  have HOC := Lib.hid hoc
  have HK1 := Lib.hid hK1
  have HK2 := Lib.hid hK2
  clear hb ho hoc hK1 hK2
  go_wp2_with fail
  refine wp_region_any (by kernel_rfl) ?_
  change wpAny _ _ _ _ _ _ _ (World.drew _)
  refine wpAny_take (i := 0) (v := ?v24) rfl (by kernel_rfl) (by kernel_rfl) (by kernel_rfl) (fun _ _ _ h => h) (Or.inl ⟨by rfl, ?hy24⟩) ?_
  case hy24 => (intro w; go_simp; try with_reducible rfl)
  refine wpAny_take (i := 1) (v := ?v25) rfl (by kernel_rfl) (by kernel_rfl) (by kernel_rfl) (fun _ _ _ h => h) (Or.inl ⟨by rfl, ?hy25⟩) ?_
  case hy25 => (intro w; go_simp; try with_reducible rfl)
  refine wpAny_take (i := 2) (v := ?v26) rfl (by kernel_rfl) (by kernel_rfl) (by kernel_rfl) (fun _ _ _ h => h) (Or.inl ⟨by rfl, ?hy26⟩) ?_
  case hy26 => (intro w; go_simp; try with_reducible rfl)
  refine wpAny_take (i := 3) (v := ?v27) rfl (by kernel_rfl) (by kernel_rfl) (by kernel_rfl) (fun _ _ _ h => h) (Or.inl ⟨by rfl, ?hy27⟩) ?_
  case hy27 => (intro w; go_simp; try with_reducible rfl)
  refine wpAny_take (i := 5) (v := ?v28) rfl (by kernel_rfl) (by kernel_rfl) (by kernel_rfl) (fun _ _ _ h => h) (Or.inl ⟨by rfl, ?hy28⟩) ?_
  case hy28 => (intro w; go_simp; try with_reducible rfl)
  refine wpAny_take (i := 6) (v := ?v29) rfl (by kernel_rfl) (by kernel_rfl) (by kernel_rfl) (fun _ _ _ h => h) (Or.inl ⟨by rfl, ?hy29⟩) ?_
  case hy29 => (intro w; go_simp; try with_reducible rfl)
  refine wpAny_take (i := 7) (v := ?v30) rfl (by kernel_rfl) (by kernel_rfl) (by kernel_rfl) (fun _ _ _ h => h) (Or.inl ⟨by rfl, ?hy30⟩) ?_
  case hy30 => (intro w; go_simp; try with_reducible rfl)
  refine wpAny_take (i := 8) (v := ?v31) rfl (by kernel_rfl) (by kernel_rfl) (by kernel_rfl) (fun _ _ _ h => h) (Or.inl ⟨by rfl, ?hy31⟩) ?_
  case hy31 => (intro w; go_simp; try with_reducible rfl)
  refine wpAny_take (i := 9) (v := ?v32) rfl (by kernel_rfl) (by kernel_rfl) (by kernel_rfl) (fun _ _ _ h => h) (Or.inl ⟨by rfl, ?hy32⟩) ?_
  case hy32 => (intro w; go_simp; try with_reducible rfl)
  refine wpAny_take (i := 10) (v := ?v33) rfl (by kernel_rfl) (by kernel_rfl) (by kernel_rfl) (fun _ _ _ h => h) (Or.inl ⟨by rfl, ?hy33⟩) ?_
  case hy33 => (intro w; go_simp; try with_reducible rfl)
  refine wpAny_take (i := 11) (v := ?v34) rfl (by kernel_rfl) (by kernel_rfl) (by kernel_rfl) (fun _ _ _ h => h) (Or.inl ⟨by rfl, ?hy34⟩) ?_
  case hy34 => (intro w; go_simp; try with_reducible rfl)
  refine wpAny_take (i := 12) (v := ?v35) rfl (by kernel_rfl) (by kernel_rfl) (by kernel_rfl) (fun _ _ _ h => h) (Or.inl ⟨by rfl, ?hy35⟩) ?_
  case hy35 => (intro w; go_simp; try with_reducible rfl)
  refine wpAny_ready (rs := [4, 13]) (by kernel_rfl) (by simp) ?_
  refine AllReady.cons rfl (fun K hK => ?_) ?_
  · go_simp
    refine hK _ _ ?_
    clear hK K
    refine wpAny_ready (rs := [13]) (by kernel_rfl) (by simp) ?_
    refine AllReady.cons rfl (fun K hK => ?_) ?_
    · go_simp
      refine hK _ _ ?_
      clear hK K
      refine wpAny_ready (rs := [14]) (by kernel_rfl) (by simp) ?_
      refine AllReady.cons rfl (fun K hK => ?_) ?_
      · (refine step_append_row _ rfl (.tmp 18) (.tmp 27) 24 rfl 0 TC i0 _ 4 32 Try.underlying24 hi0 hz0 hz1 hz2 rfl (by decide) (.slice A2' cs.length c2') cs.length (ccs cs) rfl ?_ (w2.heap.size + 1) (some ⟨w2.heap.size, 0, none⟩) 1 1 (ccs [⟨4, (n : Int) + 1, k, t⟩]) rfl ?_ (four_cells _) ?_ ?_ ?_ ?_)
        · exact (HOC.out.alloc _).drew
        · exact (sees_new rfl).drew
        · unfold maxLen; omega
        · omega
        · exact Nat.zero_le _
        intro A9 c9 w1 hown hg hat
        have hb1 : Blk w1 a TW #[.slice A xs.length c', .slice A2' cs.length c2'] := (HB.out.alloc _).drew.grown hg (fun e => own_blk_ne HOC.out HB.out (by decide) e.symm)
        have g0 : w1.cell? ⟨a, 0, none⟩ = some (.slice A xs.length c') := hb1.cell 0
        have g1 : w1.cell? ⟨a, 1, none⟩ = some (.slice A2' cs.length c2') := hb1.cell 1
        have k1 : w1.frozen? ⟨a, 1, none⟩ = false := hb1.frozen 1
        have k0 : w1.frozen? ⟨a, 0, none⟩ = false := hb1.frozen 0
        have l1 : a < w1.heap.size := hb1.lt
        have hwc := wat_called (q := ⟨4, (n : Int) + 1, k, t⟩) HH.out HB.out HO.out HOC.out HK1.out HK2.out hown hg hat
        have HW := Lib.hid hwc.1
        have HOW := Lib.hid hwc.2
        have HC0 := Lib.hid (other_cell (u := .slice A9 (cs.length + 1) c9) g0)
        clear hb1 hown hg hat hwc
        try go_simp
        refine hK _ _ ?_
        clear hK K
        refine wpAny_take (i := 15) (v := ?v36) rfl (by kernel_rfl) (by kernel_rfl) (by kernel_rfl) (fun _ _ _ h => h) (Or.inl ⟨by rfl, ?hy36⟩) ?_
        case hy36 => (intro w; go_simp; try with_reducible rfl)
        refine wpAny_take (i := 16) (v := ?v37) rfl (by kernel_rfl) (by kernel_rfl) (by kernel_rfl) (fun _ _ _ h => h) (Or.inl ⟨by rfl, ?hy37⟩) ?_
        case hy37 => (intro w; go_simp; try with_reducible rfl)
        refine wpAny_ready (rs := [17]) (by kernel_rfl) (by simp) ?_
        refine AllReady.cons rfl (fun K hK => ?_) ?_
        · go_simp
          refine hK _ _ ?_
          clear hK K
          refine wpAny_done (by kernel_rfl) ?_ _
          go_wp2
          go_ret
          exact ⟨rfl, HW.out⟩
        exact AllReady.nil
      exact AllReady.nil
    exact AllReady.nil
  refine AllReady.cons rfl (fun K hK => ?_) ?_
  · go_simp
    refine hK _ _ ?_
    clear hK K
    refine wpAny_ready (rs := [4]) (by kernel_rfl) (by simp) ?_
    refine AllReady.cons rfl (fun K hK => ?_) ?_
    · go_simp
      refine hK _ _ ?_
      clear hK K
      refine wpAny_ready (rs := [14]) (by kernel_rfl) (by simp) ?_
      refine AllReady.cons rfl (fun K hK => ?_) ?_
      · (refine step_append_row _ rfl (.tmp 18) (.tmp 27) 24 rfl 0 TC i0 _ 4 32 Try.underlying24 hi0 hz0 hz1 hz2 rfl (by decide) (.slice A2' cs.length c2') cs.length (ccs cs) rfl ?_ (w2.heap.size + 1) (some ⟨w2.heap.size, 0, none⟩) 1 1 (ccs [⟨4, (n : Int) + 1, k, t⟩]) rfl ?_ (four_cells _) ?_ ?_ ?_ ?_)
        · exact (HOC.out.alloc _).drew
        · exact (sees_new rfl).drew
        · unfold maxLen; omega
        · omega
        · exact Nat.zero_le _
        intro A9 c9 w1 hown hg hat
        have hb1 : Blk w1 a TW #[.slice A xs.length c', .slice A2' cs.length c2'] := (HB.out.alloc _).drew.grown hg (fun e => own_blk_ne HOC.out HB.out (by decide) e.symm)
        have g0 : w1.cell? ⟨a, 0, none⟩ = some (.slice A xs.length c') := hb1.cell 0
        have g1 : w1.cell? ⟨a, 1, none⟩ = some (.slice A2' cs.length c2') := hb1.cell 1
        have k1 : w1.frozen? ⟨a, 1, none⟩ = false := hb1.frozen 1
        have k0 : w1.frozen? ⟨a, 0, none⟩ = false := hb1.frozen 0
        have l1 : a < w1.heap.size := hb1.lt
        have hwc := wat_called (q := ⟨4, (n : Int) + 1, k, t⟩) HH.out HB.out HO.out HOC.out HK1.out HK2.out hown hg hat
        have HW := Lib.hid hwc.1
        have HOW := Lib.hid hwc.2
        have HC0 := Lib.hid (other_cell (u := .slice A9 (cs.length + 1) c9) g0)
        clear hb1 hown hg hat hwc
        try go_simp
        refine hK _ _ ?_
        clear hK K
        refine wpAny_take (i := 15) (v := ?v38) rfl (by kernel_rfl) (by kernel_rfl) (by kernel_rfl) (fun _ _ _ h => h) (Or.inl ⟨by rfl, ?hy38⟩) ?_
        case hy38 => (intro w; go_simp; try with_reducible rfl)
        refine wpAny_take (i := 16) (v := ?v39) rfl (by kernel_rfl) (by kernel_rfl) (by kernel_rfl) (fun _ _ _ h => h) (Or.inl ⟨by rfl, ?hy39⟩) ?_
        case hy39 => (intro w; go_simp; try with_reducible rfl)
        refine wpAny_ready (rs := [17]) (by kernel_rfl) (by simp) ?_
        refine AllReady.cons rfl (fun K hK => ?_) ?_
        · go_simp
          refine hK _ _ ?_
          clear hK K
          refine wpAny_done (by kernel_rfl) ?_ _
          go_wp2
          go_ret
          exact ⟨rfl, HW.out⟩
        exact AllReady.nil
      exact AllReady.nil
    exact AllReady.nil
  exact AllReady.nil
end Go.Proofs.Ytpglibneflefgaa
