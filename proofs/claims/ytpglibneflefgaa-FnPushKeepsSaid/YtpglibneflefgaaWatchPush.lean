/- The watched heap: its method Push. -/
import Derived.Test.YtpglibneflefgaaWatch
import Derived.Test.YtpglibneflefgaaItemPush
namespace Go.Proofs.Ytpglibneflefgaa
set_option linter.unusedVariables false
open Go.RowKit

theorem other_frozen {w : World} {a : Nat} {u : Value} (h : w.frozen? ⟨a, 0, none⟩ = false) : (w.setCell ⟨a, 1, none⟩ u).frozen? ⟨a, 0, none⟩ = false := by
  rw [← h]
  simp [go_sem]
theorem field_key (k t : Int) (w : World) : (Instr.field TI (.agg #[.int .i64 k, .int .i64 t]) 0).run Try.prog w = .ok (.int .i64 k) w := by kernel_rfl
theorem field_tag (k t : Int) (w : World) : (Instr.field TI (.agg #[.int .i64 k, .int .i64 t]) 1).run Try.prog w = .ok (.int .i64 t) w := by kernel_rfl
/-- What (*items).Push leaves, for whatever block holds the header. -/
def PushedAt (w : World) (a : Nat) (A : Option Addr) (c : Nat) (xs : List (Int × Int)) (k t : Int) (e : Ending) (w' : World) : Prop :=
  ∃ A' c' w1 o, e = .returned (.tuple #[]) ∧ w1.ownsRow 0 TI 2 (.slice A' (xs.length + 1) c') (xs.length + 1) (ics xs ++ [.int .i64 k, .int .i64 t]) ∧ (w.alloc o).drew.grownBy w1 (Value.slice A xs.length c).ownBlock ∧
    ((Value.slice A' (xs.length + 1) c').ownBlock = (Value.slice A xs.length c).ownBlock ∨ (Value.slice A' (xs.length + 1) c').ownBlock = some (w.alloc o).drew.heap.size) ∧ w' = w1.setCell ⟨a, 0, none⟩ (.slice A' (xs.length + 1) c')
set_option maxHeartbeats 400000 in
theorem items_Push_walk (a : Nat) (A : Option Addr) (c : Nat) (xs : List (Int × Int)) (k t : Int) (w : World) (T : TypeId) (bs : Array Value) (hb : Blk w a T bs) (hT : TI ≠ T)
    (hh : w.cell? ⟨a, 0, none⟩ = some (.slice A xs.length c)) (ho : w.ownsRow 0 TI 2 (.slice A xs.length c) xs.length (ics xs)) (hn : (xs.length + 1) * 16 ≤ 140737488355328) :
    Calls Try.prog 62 #[.pointer (some ⟨a, 0, none⟩), .iface TI (.agg #[.int .i64 k, .int .i64 t])] w (PushedAt w a A c xs k t) := by
  obtain ⟨i0, hi, hz0, hz1, hz2⟩ := info_parts info_item
  have hf : w.frozen? ⟨a, 0, none⟩ = false := hb.frozen 0
  have ha : a < w.heap.size := hb.lt
  have HB := Lib.hid hb
  have HO := Lib.hid ho
  have HC := Lib.hid hh
  clear hb ho
  have hta := assert_item (.agg #[.int .i64 k, .int .i64 t])
  go_enter Try.func62, Try.ntmps62
  go_wp2
  go_region_law ((
                   (refine step_append_row _ rfl (.tmp 7) (.tmp 10) 46 rfl 0 TI i0 _ 2 16 Try.underlying46 hi hz0 hz1 hz2 rfl (by decide) (.slice A xs.length c) xs.length (ics xs) rfl ?_ (w.heap.size + 1) (some ⟨w.heap.size, 0, none⟩) 1 1 [.int .i64 k, .int .i64 t] rfl ?_ ?_ ?_ ?_ ?_ ?_)
                   · exact (HO.out.alloc _).drew
                   · exact (sees_new rfl).drew
                   · exact two_cells _ _
                   · unfold maxLen; omega
                   · exact hn
                   · exact Nat.zero_le _
                   intro A' c' w1 hown1 hgr1 hat1
                   have hb1 : Blk w1 a T bs := (HB.out.alloc _).drew.grown hgr1 (fun e => own_blk_ne HO.out HB.out hT e.symm)
                   have hh1 : w1.cell? ⟨a, 0, none⟩ = some (.slice A xs.length c) := by rw [hb1.cell 0, ← HB.out.cell 0]; exact HC.out
                   have hf1 : w1.frozen? ⟨a, 0, none⟩ = false := hb1.frozen 0
                   have hl1 : a < w1.heap.size := hb1.lt
                   have HO1 := Lib.hid hown1
                   have HG1 := Lib.hid hgr1
                   have HA1 := Lib.hid hat1
                   clear hb1 hown1 hgr1 hat1))
  all_goals go_end0
  all_goals exact ⟨A', c', w1, _, rfl, HO1.out, HG1.out, HA1.out, rfl⟩

/-- One item more. -/
theorem wat_pushed {K : Nat → Prop} {w0 : World} {a : Nat} {w : World} {xs : List (Int × Int)} {cs : List Cal} {k t : Int} {A A' : Option Addr} {c c' : Nat} {w1 : World} {o : Obj} (h : WAt K w0 a (xs, cs) w)
    (hcell : w.cell? ⟨a, 0, none⟩ = some (.slice A xs.length c)) (hown : w1.ownsRow 0 TI 2 (.slice A' (xs.length + 1) c') (xs.length + 1) (ics xs ++ [.int .i64 k, .int .i64 t])) (hg : (w.alloc o).drew.grownBy w1 (Value.slice A xs.length c).ownBlock)
    (hat : (Value.slice A' (xs.length + 1) c').ownBlock = (Value.slice A xs.length c).ownBlock ∨ (Value.slice A' (xs.length + 1) c').ownBlock = some (w.alloc o).drew.heap.size) :
    WAt K w0 a (xs ++ [(k, t)], cs) (w1.setCell ⟨a, 0, none⟩ (.slice A' (xs.length + 1) c')) := by
  obtain ⟨A0, c0, A2, c2, hb, ho, hoc, hK1, hK2⟩ := h.hdr
  have e0 : some (Value.slice A0 xs.length c0) = some (.slice A xs.length c) := (hb.cell 0).symm.trans hcell
  obtain ⟨rfl, rfl⟩ : A0 = A ∧ c0 = c := by simpa using e0
  have hl : (xs ++ [(k, t)]).length = xs.length + 1 := by simp
  have hb1 : Blk w1 a TW #[.slice A0 xs.length c0, .slice A2 cs.length c2] := (hb.alloc _).drew.grown hg (fun e => own_blk_ne ho hb (by decide) e.symm)
  have hoc1 : w1.ownsRow 0 TC 4 (.slice A2 cs.length c2) cs.length (ccs cs) := (hoc.alloc o).drew.kept hg (own_own_ne hoc ho (by decide))
  refine ⟨((h.kept.alloc h.klt o).drew.grown hg h.klt hK1).setCell h.na _, h.klt, h.na, A', c', A2, c2, ?_, ?_, own_setCell_other hoc1 (own_blk_ne hoc1 hb1 (by decide)) _, ?_, hK2⟩
  · show Blk _ a TW #[.slice A' (xs ++ [(k, t)]).length c', .slice A2 cs.length c2]
    rw [hl]
    have h3 := hb1.set_ 0 (.slice A' (xs.length + 1) c')
    simpa using h3
  · show World.ownsRow _ 0 TI 2 (.slice A' (xs ++ [(k, t)]).length c') (xs ++ [(k, t)]).length (ics (xs ++ [(k, t)]))
    rw [hl, ics_append]
    exact own_setCell_other hown (own_blk_ne hown hb1 (by decide)) _
  · show ∀ g, (Value.slice A' (xs ++ [(k, t)]).length c').ownBlock = some g → ¬ K g
    rw [hl]
    intro g hgg
    rcases hat with e | e
    · exact hK1 g (e ▸ hgg)
    · intro hk
      have h1 := h.klt g hk
      have h2 := h.kept.size
      rw [e] at hgg
      simp [World.drew] at hgg
      omega

set_option maxHeartbeats 1600000 in
theorem watched_Push (K : Nat → Prop) (w0 : World) (a : Nat) (xs : List (Int × Int)) (cs : List Cal) (k t : Int) (w : World) (h : WAt K w0 a (xs, cs) w) (hn : (xs.length + 1) * 16 ≤ 140737488355328) (hc : (cs.length + 1) * 32 ≤ 140737488355328) :
    Calls Try.prog 59 #[.pointer (some ⟨a, 0, none⟩), .iface TI (.agg #[.int .i64 k, .int .i64 t])] w fun e w' => e = .returned (.tuple #[]) ∧ WAt K w0 a (xs ++ [(k, t)], cs ++ [⟨3, xs.length, k, t⟩]) w' := by
  obtain ⟨i0, hi0, hz0, hz1, hz2⟩ := info_parts info_call
  obtain ⟨A, c, A2, c2, hb, ho, hoc, hK1, hK2⟩ := h.hdr
  have e0 : w.cell? ⟨a, 0, none⟩ = some (.slice A xs.length c) := hb.cell 0
  have e1 : w.cell? ⟨a, 1, none⟩ = some (.slice A2 cs.length c2) := hb.cell 1
  have f1 : w.frozen? ⟨a, 1, none⟩ = false := hb.frozen 1
  have ha : a < w.heap.size := hb.lt
  have HH := Lib.hid h
  have HB := Lib.hid hb
  have HO := Lib.hid ho
  have HOC := Lib.hid hoc
  have HK1 := Lib.hid hK1
  have HK2 := Lib.hid hK2
  clear h hb ho hoc hK1 hK2
  have hta := assert_item (.agg #[.int .i64 k, .int .i64 t])
  have hfk := field_key k t
  have hft := field_tag k t
  go_enter Try.func59, Try.ntmps59
  go_wp2_with fail
  refine wp_region_any (by kernel_rfl) ?_
  change wpAny _ _ _ _ _ _ _ (World.drew _)
  refine wpAny_take (i := 0) (v := ?v1) rfl (by kernel_rfl) (by kernel_rfl) (by kernel_rfl) (fun _ _ _ h => h) (Or.inl ⟨by rfl, ?hy1⟩) ?_
  case hy1 => (intro w; go_simp; try with_reducible rfl)
  refine wpAny_take (i := 1) (v := ?v2) rfl (by kernel_rfl) (by kernel_rfl) (by kernel_rfl) (fun _ _ _ h => h) (Or.inl ⟨by rfl, ?hy2⟩) ?_
  case hy2 => (intro w; go_simp; try with_reducible rfl)
  refine wpAny_take (i := 2) (v := ?v3) rfl (by kernel_rfl) (by kernel_rfl) (by kernel_rfl) (fun _ _ _ h => h) (Or.inl ⟨by rfl, ?hy3⟩) ?_
  case hy3 => (intro w; go_simp; try with_reducible rfl)
  refine wpAny_take (i := 3) (v := ?v4) rfl (by kernel_rfl) (by kernel_rfl) (by kernel_rfl) (fun _ _ _ h => h) (Or.inl ⟨by rfl, ?hy4⟩) ?_
  case hy4 => (intro w; go_simp; try with_reducible rfl)
  refine wpAny_take (i := 5) (v := ?v5) rfl (by kernel_rfl) (by kernel_rfl) (by kernel_rfl) (fun _ _ _ h => h) (Or.inl ⟨by rfl, ?hy5⟩) ?_
  case hy5 => (intro w; go_simp; try with_reducible rfl)
  refine wpAny_take (i := 6) (v := ?v6) rfl (by kernel_rfl) (by kernel_rfl) (by kernel_rfl) (fun _ _ _ h => h) (Or.inl ⟨by rfl, ?hy6⟩) ?_
  case hy6 => (intro w; go_simp; try with_reducible rfl)
  refine wpAny_take (i := 7) (v := ?v7) rfl (by kernel_rfl) (by kernel_rfl) (by kernel_rfl) (fun _ _ _ h => h) (Or.inl ⟨by rfl, ?hy7⟩) ?_
  case hy7 => (intro w; go_simp; try with_reducible rfl)
  refine wpAny_take (i := 10) (v := ?v8) rfl (by kernel_rfl) (by kernel_rfl) (by kernel_rfl) (fun _ _ _ h => h) (Or.inl ⟨by rfl, ?hy8⟩) ?_
  case hy8 => (intro w; go_simp; try with_reducible rfl)
  refine wpAny_take (i := 11) (v := ?v9) rfl (by kernel_rfl) (by kernel_rfl) (by kernel_rfl) (fun _ _ _ h => h) (Or.inl ⟨by rfl, ?hy9⟩) ?_
  case hy9 => (intro w; go_simp; try with_reducible rfl)
  refine wpAny_take (i := 12) (v := ?v10) rfl (by kernel_rfl) (by kernel_rfl) (by kernel_rfl) (fun _ _ _ h => h) (Or.inl ⟨by rfl, ?hy10⟩) ?_
  case hy10 => (intro w; go_simp; try with_reducible rfl)
  refine wpAny_take (i := 13) (v := ?v11) rfl (by kernel_rfl) (by kernel_rfl) (by kernel_rfl) (fun _ _ _ h => h) (Or.inl ⟨by rfl, ?hy11⟩) ?_
  case hy11 => (intro w; go_simp; try with_reducible rfl)
  refine wpAny_take (i := 14) (v := ?v12) rfl (by kernel_rfl) (by kernel_rfl) (by kernel_rfl) (fun _ _ _ h => h) (Or.inl ⟨by rfl, ?hy12⟩) ?_
  case hy12 => (intro w; go_simp; try with_reducible rfl)
  refine wpAny_take (i := 15) (v := ?v13) rfl (by kernel_rfl) (by kernel_rfl) (by kernel_rfl) (fun _ _ _ h => h) (Or.inl ⟨by rfl, ?hy13⟩) ?_
  case hy13 => (intro w; go_simp; try with_reducible rfl)
  refine wpAny_ready (rs := [4, 8]) (by kernel_rfl) (by simp) ?_
  refine AllReady.cons rfl (fun K hK => ?_) ?_
  · go_simp
    refine hK _ _ ?_
    clear hK K
    refine wpAny_ready (rs := [8]) (by kernel_rfl) (by simp) ?_
    refine AllReady.cons rfl (fun K hK => ?_) ?_
    · go_simp
      refine hK _ _ ?_
      clear hK K
      refine wpAny_take (i := 9) (v := ?v14) rfl (by kernel_rfl) (by kernel_rfl) (by kernel_rfl) (fun _ _ _ h => h) (Or.inl ⟨by rfl, ?hy14⟩) ?_
      case hy14 => (intro w; go_simp; try with_reducible rfl)
      refine wpAny_take (i := 16) (v := ?v15) rfl (by kernel_rfl) (by kernel_rfl) (by kernel_rfl) (fun _ _ _ h => h) (Or.inl ⟨by rfl, ?hy15⟩) ?_
      case hy15 => (intro w; go_simp; try with_reducible rfl)
      refine wpAny_ready (rs := [17]) (by kernel_rfl) (by simp) ?_
      refine AllReady.cons rfl (fun K hK => ?_) ?_
      · go_simp
        refine hK _ _ ?_
        clear hK K
        refine wpAny_ready (rs := [18]) (by kernel_rfl) (by simp) ?_
        refine AllReady.cons rfl (fun K hK => ?_) ?_
        · (refine step_append_row _ rfl (.tmp 8) (.tmp 21) 24 rfl 0 TC i0 _ 4 32 Try.underlying24 hi0 hz0 hz1 hz2 rfl (by decide) (.slice A2 cs.length c2) cs.length (ccs cs) rfl ?_ (w.heap.size + 1) (some ⟨w.heap.size, 0, none⟩) 1 1 (ccs [⟨3, xs.length, k, t⟩]) rfl ?_ (four_cells _) ?_ ?_ ?_ ?_)
          · exact (HOC.out.alloc _).drew
          · exact (sees_new rfl).drew
          · unfold maxLen; omega
          · omega
          · exact Nat.zero_le _
          intro A' c' w1 hown hg hat
          have hb1 : Blk w1 a TW #[.slice A xs.length c, .slice A2 cs.length c2] := (HB.out.alloc _).drew.grown hg (fun e => own_blk_ne HOC.out HB.out (by decide) e.symm)
          have g0 : w1.cell? ⟨a, 0, none⟩ = some (.slice A xs.length c) := hb1.cell 0
          have g1 : w1.cell? ⟨a, 1, none⟩ = some (.slice A2 cs.length c2) := hb1.cell 1
          have k1 : w1.frozen? ⟨a, 1, none⟩ = false := hb1.frozen 1
          have k0 : w1.frozen? ⟨a, 0, none⟩ = false := hb1.frozen 0
          have l1 : a < w1.heap.size := hb1.lt
          have hwc := wat_called (q := ⟨3, xs.length, k, t⟩) HH.out HB.out HO.out HOC.out HK1.out HK2.out hown hg hat
          have HW := Lib.hid hwc.1
          have HOW := Lib.hid hwc.2
          have HC0 := Lib.hid (other_cell (u := .slice A' (cs.length + 1) c') g0)
          clear hb1 hown hg hat hwc
          try go_simp
          refine hK _ _ ?_
          clear hK K
          refine wpAny_take (i := 19) (v := ?v16) rfl (by kernel_rfl) (by kernel_rfl) (by kernel_rfl) (fun _ _ _ h => h) (Or.inl ⟨by rfl, ?hy16⟩) ?_
          case hy16 => (intro w; go_simp; try with_reducible rfl)
          refine wpAny_take (i := 20) (v := ?v17) rfl (by kernel_rfl) (by kernel_rfl) (by kernel_rfl) (fun _ _ _ h => h) (Or.inl ⟨by rfl, ?hy17⟩) ?_
          case hy17 => (intro w; go_simp; try with_reducible rfl)
          refine wpAny_ready (rs := [21]) (by kernel_rfl) (by simp) ?_
          refine AllReady.cons rfl (fun K hK => ?_) ?_
          · go_simp
            refine hK _ _ ?_
            clear hK K
            refine wpAny_done (by kernel_rfl) ?_ _
            go_wp2_with fail
            obtain ⟨A5, c5, A6, c6, hb5, _⟩ := HW.out.hdr
            refine (items_Push_walk a A c xs k t _ TW _ hb5 (by decide) HC0.out HOW.out hn).mono ?_
            rintro e w2 ⟨A3, c3, w3, o3, rfl, ho3, hg3, ha3, rfl⟩
            have HW2 := Lib.hid (wat_pushed HW.out HC0.out ho3 hg3 ha3)
            clear ho3 hg3 ha3 hb5
            go_wp2
            go_end0
            exact ⟨rfl, HW2.out⟩
          exact AllReady.nil
        exact AllReady.nil
      exact AllReady.nil
    exact AllReady.nil
  refine AllReady.cons rfl (fun K hK => ?_) ?_
  · go_simp
    refine hK _ _ ?_
    clear hK K
    refine wpAny_take (i := 9) (v := ?v18) rfl (by kernel_rfl) (by kernel_rfl) (by kernel_rfl) (fun _ _ _ h => h) (Or.inl ⟨by rfl, ?hy18⟩) ?_
    case hy18 => (intro w; go_simp; try with_reducible rfl)
    refine wpAny_take (i := 16) (v := ?v19) rfl (by kernel_rfl) (by kernel_rfl) (by kernel_rfl) (fun _ _ _ h => h) (Or.inl ⟨by rfl, ?hy19⟩) ?_
    case hy19 => (intro w; go_simp; try with_reducible rfl)
    refine wpAny_ready (rs := [4, 17]) (by kernel_rfl) (by simp) ?_
    refine AllReady.cons rfl (fun K hK => ?_) ?_
    · go_simp
      refine hK _ _ ?_
      clear hK K
      refine wpAny_ready (rs := [17]) (by kernel_rfl) (by simp) ?_
      refine AllReady.cons rfl (fun K hK => ?_) ?_
      · go_simp
        refine hK _ _ ?_
        clear hK K
        refine wpAny_ready (rs := [18]) (by kernel_rfl) (by simp) ?_
        refine AllReady.cons rfl (fun K hK => ?_) ?_
        · (refine step_append_row _ rfl (.tmp 8) (.tmp 21) 24 rfl 0 TC i0 _ 4 32 Try.underlying24 hi0 hz0 hz1 hz2 rfl (by decide) (.slice A2 cs.length c2) cs.length (ccs cs) rfl ?_ (w.heap.size + 1) (some ⟨w.heap.size, 0, none⟩) 1 1 (ccs [⟨3, xs.length, k, t⟩]) rfl ?_ (four_cells _) ?_ ?_ ?_ ?_)
          · exact (HOC.out.alloc _).drew
          · exact (sees_new rfl).drew
          · unfold maxLen; omega
          · omega
          · exact Nat.zero_le _
          intro A' c' w1 hown hg hat
          have hb1 : Blk w1 a TW #[.slice A xs.length c, .slice A2 cs.length c2] := (HB.out.alloc _).drew.grown hg (fun e => own_blk_ne HOC.out HB.out (by decide) e.symm)
          have g0 : w1.cell? ⟨a, 0, none⟩ = some (.slice A xs.length c) := hb1.cell 0
          have g1 : w1.cell? ⟨a, 1, none⟩ = some (.slice A2 cs.length c2) := hb1.cell 1
          have k1 : w1.frozen? ⟨a, 1, none⟩ = false := hb1.frozen 1
          have k0 : w1.frozen? ⟨a, 0, none⟩ = false := hb1.frozen 0
          have l1 : a < w1.heap.size := hb1.lt
          have hwc := wat_called (q := ⟨3, xs.length, k, t⟩) HH.out HB.out HO.out HOC.out HK1.out HK2.out hown hg hat
          have HW := Lib.hid hwc.1
          have HOW := Lib.hid hwc.2
          have HC0 := Lib.hid (other_cell (u := .slice A' (cs.length + 1) c') g0)
          clear hb1 hown hg hat hwc
          try go_simp
          refine hK _ _ ?_
          clear hK K
          refine wpAny_take (i := 19) (v := ?v20) rfl (by kernel_rfl) (by kernel_rfl) (by kernel_rfl) (fun _ _ _ h => h) (Or.inl ⟨by rfl, ?hy20⟩) ?_
          case hy20 => (intro w; go_simp; try with_reducible rfl)
          refine wpAny_take (i := 20) (v := ?v21) rfl (by kernel_rfl) (by kernel_rfl) (by kernel_rfl) (fun _ _ _ h => h) (Or.inl ⟨by rfl, ?hy21⟩) ?_
          case hy21 => (intro w; go_simp; try with_reducible rfl)
          refine wpAny_ready (rs := [21]) (by kernel_rfl) (by simp) ?_
          refine AllReady.cons rfl (fun K hK => ?_) ?_
          · go_simp
            refine hK _ _ ?_
            clear hK K
            refine wpAny_done (by kernel_rfl) ?_ _
            go_wp2_with fail
            obtain ⟨A5, c5, A6, c6, hb5, _⟩ := HW.out.hdr
            refine (items_Push_walk a A c xs k t _ TW _ hb5 (by decide) HC0.out HOW.out hn).mono ?_
            rintro e w2 ⟨A3, c3, w3, o3, rfl, ho3, hg3, ha3, rfl⟩
            have HW2 := Lib.hid (wat_pushed HW.out HC0.out ho3 hg3 ha3)
            clear ho3 hg3 ha3 hb5
            go_wp2
            go_end0
            exact ⟨rfl, HW2.out⟩
          exact AllReady.nil
        exact AllReady.nil
      exact AllReady.nil
    refine AllReady.cons rfl (fun K hK => ?_) ?_
    · go_simp
      refine hK _ _ ?_
      clear hK K
      refine wpAny_ready (rs := [4]) (by kernel_rfl) (by simp) ?_
      refine AllReady.cons rfl (fun K hK => ?_) ?_
      · go_simp
        refine hK _ _ ?_
        clear hK K
        refine wpAny_ready (rs := [18]) (by kernel_rfl) (by simp) ?_
        refine AllReady.cons rfl (fun K hK => ?_) ?_
        · (refine step_append_row _ rfl (.tmp 8) (.tmp 21) 24 rfl 0 TC i0 _ 4 32 Try.underlying24 hi0 hz0 hz1 hz2 rfl (by decide) (.slice A2 cs.length c2) cs.length (ccs cs) rfl ?_ (w.heap.size + 1) (some ⟨w.heap.size, 0, none⟩) 1 1 (ccs [⟨3, xs.length, k, t⟩]) rfl ?_ (four_cells _) ?_ ?_ ?_ ?_)
          · exact (HOC.out.alloc _).drew
          · exact (sees_new rfl).drew
          · unfold maxLen; omega
          · omega
          · exact Nat.zero_le _
          intro A' c' w1 hown hg hat
          have hb1 : Blk w1 a TW #[.slice A xs.length c, .slice A2 cs.length c2] := (HB.out.alloc _).drew.grown hg (fun e => own_blk_ne HOC.out HB.out (by decide) e.symm)
          have g0 : w1.cell? ⟨a, 0, none⟩ = some (.slice A xs.length c) := hb1.cell 0
          have g1 : w1.cell? ⟨a, 1, none⟩ = some (.slice A2 cs.length c2) := hb1.cell 1
          have k1 : w1.frozen? ⟨a, 1, none⟩ = false := hb1.frozen 1
          have k0 : w1.frozen? ⟨a, 0, none⟩ = false := hb1.frozen 0
          have l1 : a < w1.heap.size := hb1.lt
          have hwc := wat_called (q := ⟨3, xs.length, k, t⟩) HH.out HB.out HO.out HOC.out HK1.out HK2.out hown hg hat
          have HW := Lib.hid hwc.1
          have HOW := Lib.hid hwc.2
          have HC0 := Lib.hid (other_cell (u := .slice A' (cs.length + 1) c') g0)
          clear hb1 hown hg hat hwc
          try go_simp
          refine hK _ _ ?_
          clear hK K
          refine wpAny_take (i := 19) (v := ?v22) rfl (by kernel_rfl) (by kernel_rfl) (by kernel_rfl) (fun _ _ _ h => h) (Or.inl ⟨by rfl, ?hy22⟩) ?_
          case hy22 => (intro w; go_simp; try with_reducible rfl)
          refine wpAny_take (i := 20) (v := ?v23) rfl (by kernel_rfl) (by kernel_rfl) (by kernel_rfl) (fun _ _ _ h => h) (Or.inl ⟨by rfl, ?hy23⟩) ?_
          case hy23 => (intro w; go_simp; try with_reducible rfl)
          refine wpAny_ready (rs := [21]) (by kernel_rfl) (by simp) ?_
          refine AllReady.cons rfl (fun K hK => ?_) ?_
          · go_simp
            refine hK _ _ ?_
            clear hK K
            refine wpAny_done (by kernel_rfl) ?_ _
            go_wp2_with fail
            obtain ⟨A5, c5, A6, c6, hb5, _⟩ := HW.out.hdr
            refine (items_Push_walk a A c xs k t _ TW _ hb5 (by decide) HC0.out HOW.out hn).mono ?_
            rintro e w2 ⟨A3, c3, w3, o3, rfl, ho3, hg3, ha3, rfl⟩
            have HW2 := Lib.hid (wat_pushed HW.out HC0.out ho3 hg3 ha3)
            clear ho3 hg3 ha3 hb5
            go_wp2
            go_end0
            exact ⟨rfl, HW2.out⟩
          exact AllReady.nil
        exact AllReady.nil
      exact AllReady.nil
    exact AllReady.nil
  exact AllReady.nil
end Go.Proofs.Ytpglibneflefgaa
