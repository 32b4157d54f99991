/- The heap of items: the methods Push and Pop; the functions HeapPush, HeapPop. -/
import Derived.Test.YtpglibneflefgaaItemFns
import Derived.Test.YtpglibneflefgaaPops
import Derived.Deep.RegionWith
namespace Go.Proofs.Ytpglibneflefgaa
set_option linter.unusedVariables false
open Go.RowKit

set_option maxHeartbeats 400000 in
theorem items_Push (K : Nat → Prop) (w0 : World) (a : Nat) (xs : List (Int × Int)) (k t : Int) (w : World) (h : ItemsAt K w0 a xs w) (hn : (xs.length + 1) * 16 ≤ 140737488355328) :
    Calls Try.prog 62 #[.pointer (some ⟨a, 0, none⟩), .iface 36 (.agg #[.int .i64 k, .int .i64 t])] w fun e w' => e = .returned (.tuple #[]) ∧ ItemsAt K w0 a (xs ++ [(k, t)]) w' := by
  obtain ⟨i0, hi, hz0, hz1, hz2⟩ := info_parts info_item
  obtain ⟨A, c, hb, hown, hK⟩ := h.hdr
  have HK := Lib.hid hK
  have hh : w.cell? ⟨a, 0, none⟩ = some (.slice A xs.length c) := hb.cell 0
  have hf : w.frozen? ⟨a, 0, none⟩ = false := hb.frozen 0
  have ha : a < w.heap.size := hb.lt
  have HH := Lib.hid h
  have HB := Lib.hid hb
  have HO := Lib.hid hown
  clear hb hown h hK
  have hta := assert_item (.agg #[.int .i64 k, .int .i64 t])
  go_enter Try.func62, Try.ntmps62
  go_wp2
  go_region_law ((
                   (refine step_append_row _ rfl (.tmp 7) (.tmp 10) 46 rfl 0 36 i0 _ 2 16 Try.underlying46 hi hz0 hz1 hz2 rfl (by decide) (.slice A xs.length c) xs.length (ics xs) rfl ?_ (w.heap.size + 1) (some ⟨w.heap.size, 0, none⟩) 1 1 [.int .i64 k, .int .i64 t] rfl ?_ ?_ ?_ ?_ ?_ ?_)
                   · exact (HO.out.alloc _).drew
                   · exact (sees_new rfl).drew
                   · exact two_cells _ _
                   · unfold maxLen; omega
                   · exact hn
                   · exact Nat.zero_le _
                   intro A' c' w1 hown1 hgr1 hat1
                   have hb1 : Blk w1 a 46 #[.slice A xs.length c] := (HB.out.alloc _).drew.grown hgr1 (fun e => own_blk_ne HO.out HB.out (by decide) e.symm)
                   have hh1 : w1.cell? ⟨a, 0, none⟩ = some (.slice A xs.length c) := hb1.cell 0
                   have hf1 : w1.frozen? ⟨a, 0, none⟩ = false := hb1.frozen 0
                   have HB1 := Lib.hid hb1
                   have HO1 := Lib.hid hown1
                   have HL1 := Lib.hid (((HH.out.kept.alloc HH.out.klt _).drew).grown hgr1 HH.out.klt (fun g hg => HK.out g hg))
                   have HK1 := Lib.hid (show ∀ g, (Value.slice A' (xs.length + 1) c').ownBlock = some g → ¬ K g from fun g hg => by
                     rcases hat1 with e | e
                     · exact HK.out g (e ▸ hg)
                     · intro hk
                       have h1 := HH.out.klt g hk
                       have h2 := HH.out.kept.size
                       rw [e] at hg
                       simp at hg
                       omega)
                   clear hb1 hown1 hgr1 hat1))
  all_goals go_end0
  all_goals refine ⟨rfl, HL1.out.setCell HH.out.na _, HH.out.klt, HH.out.na, A', c', ?_, ?_, ?_⟩
  all_goals rw [show (xs ++ [(k, t)]).length = xs.length + 1 by simp]
  all_goals first | exact HB1.out.set_ 0 _ | exact HK1.out | (rw [ics_append]; exact own_setCell_other HO1.out (own_blk_ne HO1.out HB1.out (by decide)) _)

theorem items_push (K : Nat → Prop) (w0 : World) (a : Nat) (xs : List (Int × Int)) (k t : Int) (w : World) (h : ItemsAt K w0 a xs w) (hn : (xs.length + 1) * 16 ≤ 140737488355328) :
    Meth Try.prog 52 (.pointer (some ⟨a, 0, none⟩)) "Push" #[.iface 36 (.agg #[.int .i64 k, .int .i64 t])] w fun e w' => e = .returned (.tuple #[]) ∧ ItemsAt K w0 a (xs ++ [(k, t)]) w' :=
  ⟨_, _, items_find_Push _ w, fun _ _ => by kernel_rfl, items_Push K w0 a xs k t w h hn⟩

set_option maxHeartbeats 400000 in
theorem items_Pop_walk (a g n c : Nat) (w : World) (k t : Int) (hn : n < 4611686018427387904) (hnc : n + 1 ≤ c)
    (ha : a < w.heap.size) (hg : g < w.heap.size)
    (hh : w.cell? ⟨a, 0, none⟩ = some (.slice (some ⟨g, 0, none⟩) (n + 1) c)) (hf : w.frozen? ⟨a, 0, none⟩ = false)
    (ck : w.cell? ⟨g, n * 2, none⟩ = some (.int .i64 k)) (ct : w.cell? ⟨g, n * 2 + 1, none⟩ = some (.int .i64 t)) :
    Calls Try.prog 61 #[.pointer (some ⟨a, 0, none⟩)] w fun e w' => e = .returned (.iface 36 (.agg #[.int .i64 k, .int .i64 t])) ∧
      w' = (w.setCell ⟨a, 0, none⟩ (.slice (some ⟨g, 0, none⟩) n c)).alloc (.cells #[.int .i64 k, .int .i64 t] 36) := by
  go_enter Try.func61, Try.ntmps61
  go_wp2
  go_ret
  exact ⟨rfl, rfl⟩

theorem items_pop (K : Nat → Prop) (w0 : World) (a : Nat) (xs : List (Int × Int)) (n : Nat) (hx : xs.length = n + 1) (hn : n < 4611686018427387904) (w : World) (h : ItemsAt K w0 a xs w) :
    Meth Try.prog 52 (.pointer (some ⟨a, 0, none⟩)) "Pop" #[] w fun e w' => e = .returned (.iface 36 (.agg #[.int .i64 (at_ (0, 0) xs n).1, .int .i64 (at_ (0, 0) xs n).2])) ∧ ItemsAt K w0 a (xs.take n) w' := by
  obtain ⟨A, c, hb, ho, hK⟩ := h.hdr
  obtain ⟨g, cap, hv, _, hlt⟩ := ho.form (by omega)
  obtain ⟨rfl, rfl⟩ : A = some ⟨g, 0, none⟩ ∧ c = cap := by simpa using hv
  have hnl : n < xs.length := by omega
  rw [hx] at hb ho
  refine ⟨_, _, items_find_Pop _ w, fun _ _ => by kernel_rfl, ?_⟩
  refine (items_Pop_walk a g n c w (at_ (0, 0) xs n).1 (at_ (0, 0) xs n).2 hn (own_cap ho) hb.lt hlt (hb.cell 0) (hb.frozen 0) ?_ ?_).mono ?_
  · rw [ho.cellAt _ (by omega), at_get _ hnl]; exact ics_key _ _ hnl
  · rw [ho.cellAt _ (by omega), at_get _ hnl]; exact ics_tag _ _ hnl
  rintro e w' ⟨rfl, rfl⟩
  refine ⟨rfl, HeapAt.alloc ⟨h.kept.setCell h.na _, h.klt, h.na, some ⟨g, 0, none⟩, c, ?_, ?_, ?_⟩ _⟩
  · rw [show (xs.take n).length = n by rw [List.length_take]; omega]
    exact hb.set_ 0 _
  · rw [show (xs.take n).length = n by rw [List.length_take]; omega, ics_take]
    exact own_setCell_other (own_shrink ho) (own_blk_ne (own_shrink ho) hb (by decide)) _
  · intro g' hg'
    exact hK g' hg'

/-- heap.Pop over a heap of items. -/
theorem items_heapPop (K : Nat → Prop) (w0 : World) (a : Nat) (l : List (Int × Int)) (w : World) (h : ItemsAt K w0 a l w) (h0 : 0 < l.length) (hn : l.length < 4611686018427387904) :
    Calls Try.prog 35 #[.iface 52 (.pointer (some ⟨a, 0, none⟩))] w fun e w' => e = .returned (.iface 36 (.agg #[.int .i64 (popTop klt (0, 0) l).1, .int .i64 (popTop klt (0, 0) l).2])) ∧ ItemsAt K w0 a (popRest klt l) w' := by
  refine pop_any (items_impl K w0 a (3 * l.length) l.length hn) l w (l.length - 1) _ _ ⟨h, Nat.le_refl _⟩ (by show l.length = _; omega) (by omega) (by show 0 + _ + 1 ≤ _; omega) ?_
  rintro w1 ⟨h1, _⟩
  exact items_pop K w0 a _ (l.length - 1) (by show (popAll klt l).length = _; rw [popAll_length]; omega) (by omega) w1 h1

/-- heap.Push over a heap of items. -/
theorem items_heapPush (K : Nat → Prop) (w0 : World) (a : Nat) (l : List (Int × Int)) (k t : Int) (w : World) (h : ItemsAt K w0 a l w) (hn : (l.length + 1) * 16 ≤ 140737488355328) :
    Calls Try.prog 34 #[.iface 52 (.pointer (some ⟨a, 0, none⟩)), .iface 36 (.agg #[.int .i64 k, .int .i64 t])] w fun e w' => e = .returned (.tuple #[]) ∧ ItemsAt K w0 a (pushF klt l (k, t)) w' := by
  refine (push_any (items_impl K w0 a (2 * l.length) (l.length + 1) (by omega)) (l ++ [(k, t)]) w _ l.length ?_ (by show (l ++ [_]).length = _; simp) (by omega) (by show 0 + _ ≤ _; omega)).mono ?_
  · refine (items_push K w0 a l k t w h hn).mono ?_
    rintro e w' ⟨rfl, h1⟩
    exact ⟨rfl, h1, by simp⟩
  · rintro e w' ⟨rfl, h1, _⟩
    exact ⟨rfl, h1⟩

set_option maxHeartbeats 400000 in
theorem heapPush_any (A : Option Addr) (c : Nat) (l : List (Int × Int)) (k t : Int) (w : World) (hs : Sees w w.heap.size 2 A l.length (ics l)) (hn : (l.length + 1) * 16 ≤ 140737488355328) :
    Calls Try.prog 26 #[.slice A l.length c, .agg #[.int .i64 k, .int .i64 t]] w (NewItems w (pushF klt l (k, t))) := by
  have HS := Lib.hid hs
  clear hs
  go_enter Try.func26, Try.ntmps26
  go_wp2_with fail
  refine (copied_any A c l _ w.heap.size (HS.out.alloc (Nat.le_refl _) _) (by omega)).mono ?_
  rintro e w1 ⟨A1, c1, rfl, ho1, hb1⟩
  have hsz : w.heap.size < w1.heap.size := by have := hb1.size; simp at this; omega
  have d0 : w1.cell? ⟨w.heap.size, 0, none⟩ = some (.int .i64 k) := (hb1.cell (p := ⟨w.heap.size, 0, none⟩) (by simp)).trans ((Blk.new w _ _).cell 0)
  have d1 : w1.cell? ⟨w.heap.size, 1, none⟩ = some (.int .i64 t) := (hb1.cell (p := ⟨w.heap.size, 1, none⟩) (by simp)).trans ((Blk.new w _ _).cell 1)
  have HH := Lib.hid (heapAt_new (TH := 46) (ex := []) ho1 hb1 (Nat.le_refl _))
  clear ho1 hb1
  go_wp2_with fail
  refine (items_heapPush _ _ w1.heap.size l k t _ HH.out hn).mono ?_
  rintro e w2 ⟨rfl, hR⟩
  obtain ⟨A2, c2, hbk, ho2, _⟩ := hR.hdr
  have hh2 : w2.cell? ⟨w1.heap.size, 0, none⟩ = some (.slice A2 (pushF klt l (k, t)).length c2) := hbk.cell 0
  have HB2 := Lib.hid (hR.kept.below fun _ h => h)
  have HO2 := Lib.hid ho2
  clear hR hbk ho2
  go_wp2_with fail
  refine (copied_any A2 c2 (pushF klt l (k, t)) w2 w2.heap.size (Sees.of_own HO2.out) (by rw [pushF_length]; exact hn)).mono ?_
  rintro e w3 ⟨A3, c3, rfl, ho3, hb3⟩
  go_wp2
  go_ret
  have hz := HB2.out.size
  rw [size_alloc_] at hz
  exact ⟨A3, c3, rfl, own_base ho3 (by omega), ((Below.refl _ _).alloc (Nat.le_refl _) _).trans ((HB2.out.mono (by simp)).trans (hb3.mono (by omega)))⟩

/-- A new slice of items and an item are handed back. -/
def NewItemsAnd (w : World) (l : List (Int × Int)) (x : Int × Int) (e : Ending) (w' : World) : Prop :=
  ∃ A c, e = .returned (.tuple #[.slice A l.length c, .agg #[.int .i64 x.1, .int .i64 x.2]]) ∧ w'.ownsRow w.heap.size 36 2 (.slice A l.length c) l.length (ics l) ∧ Below w.heap.size w w'

theorem newand_eq {P : Program} {f : FuncId} {args : Array Value} {w : World} {l : List (Int × Int)} {x x' : Int × Int} (h : Calls P f args w (NewItemsAnd w l x)) (e : x = x') : Calls P f args w (NewItemsAnd w l x') := e ▸ h

set_option maxHeartbeats 400000 in
theorem heapPop_any (A : Option Addr) (c : Nat) (l : List (Int × Int)) (w : World) (hs : Sees w w.heap.size 2 A l.length (ics l)) (h0 : 0 < l.length) (hn : l.length * 16 ≤ 140737488355328) :
    Calls Try.prog 29 #[.slice A l.length c] w (NewItemsAnd w (popRest klt l) (popTop klt (0, 0) l)) := by
  have HS := Lib.hid hs
  clear hs
  obtain ⟨⟨xk, xt⟩, hX⟩ : ∃ x, popTop klt (0, 0) l = x := ⟨_, rfl⟩
  rw [hX]
  have hpop := fun a W (h : ItemsAt (· < (w.alloc (.cells #[.int .i64 0, .int .i64 0] 36)).heap.size) (w.alloc (.cells #[.int .i64 0, .int .i64 0] 36)) a l W) => items_heapPop _ _ a l W h h0 (by omega)
  rw [hX] at hpop
  have HPOP := Lib.hid hpop
  clear hpop hX
  have hta := assert_item (.agg #[.int .i64 xk, .int .i64 xt])
  go_enter Try.func29, Try.ntmps29
  go_wp2_with fail
  refine (copied_any A c l _ w.heap.size (HS.out.alloc (Nat.le_refl _) _) (by omega)).mono ?_
  rintro e w1 ⟨A1, c1, rfl, ho1, hb1⟩
  have hsz : w.heap.size < w1.heap.size := by have := hb1.size; simp at this; omega
  have HH := Lib.hid (heapAt_new (TH := 46) (ex := []) ho1 hb1 (Nat.le_refl _))
  clear ho1 hb1
  go_wp2_with fail
  refine (HPOP.out w1.heap.size _ HH.out).mono ?_
  rintro e w2 ⟨rfl, hR⟩
  obtain ⟨A2, c2, hbk, ho2, _⟩ := hR.hdr
  have hz2 := hR.kept.size
  rw [size_alloc_] at hz2
  have hh2 : w2.cell? ⟨w1.heap.size, 0, none⟩ = some (.slice A2 (popRest klt l).length c2) := hbk.cell 0
  have hlt2 : w1.heap.size < w2.heap.size := hbk.lt
  have hbr : Blk w2 w.heap.size 36 #[.int .i64 0, .int .i64 0] := (Blk.new w _ _).below (hR.kept.below fun _ h => h) (by simp)
  have HBR := Lib.hid hbr
  have HB2 := Lib.hid (hR.kept.below fun _ h => h)
  have HO2 := Lib.hid ho2
  clear hR hbk ho2 hbr
  go_wp2_with fail
  obtain ⟨W, hW⟩ : ∃ W, W = w2.alloc (.cells #[.int .i64 xk, .int .i64 xt] 36) := ⟨_, rfl⟩
  have hbx : Blk W w2.heap.size 36 #[.int .i64 xk, .int .i64 xt] := by rw [hW]; exact Blk.new _ _ _
  have hWs : W.heap.size = w2.heap.size + 1 := by rw [hW]; simp
  have hhW : W.cell? ⟨w1.heap.size, 0, none⟩ = some (.slice A2 (popRest klt l).length c2) := by rw [hW, World.cell?_alloc_lt _ _ _ hlt2]; exact hh2
  have HBRW := Lib.hid (show Blk W w.heap.size 36 #[.int .i64 0, .int .i64 0] by rw [hW]; exact HBR.out.alloc _)
  have HOW := Lib.hid (show Sees W.drew W.drew.heap.size 2 A2 (popRest klt l).length (ics (popRest klt l)) by refine Sees.drew ?_; rw [hW]; exact (((Sees.of_own HO2.out).alloc (Nat.le_refl _) _).more (by simp)))
  have HBW := Lib.hid (show Below w.heap.size w W.drew by rw [hW]; exact (((((Below.refl _ _).alloc (Nat.le_refl _) _).trans (HB2.out.mono (by simp))).alloc (by omega) _)).drew)
  rw [← hW]
  have e0 : W.cell? ⟨w2.heap.size, 0, none⟩ = some (.int .i64 xk) := hbx.cell 0
  have e1 : W.cell? ⟨w2.heap.size, 1, none⟩ = some (.int .i64 xt) := hbx.cell 1
  have hlW : w2.heap.size < W.heap.size := hbx.lt
  have hlr : w.heap.size < W.heap.size := by omega
  have HPL := Lib.hid (popRest_length klt l)
  clear hbx hW hWs hh2
  go_region_with (go_at_call 32; (with_reducible refine (copied_any A2 c2 (popRest klt l) W.drew _ HOW.out ?_).mono ?_); (rw [HPL.out]; omega); rintro e w3 ⟨A3, c3, rfl, ho3, hb3⟩; have f0 := (hb3.cell (p := ⟨w2.heap.size, 0, none⟩) hlW).trans e0; have f1 := (hb3.cell (p := ⟨w2.heap.size, 1, none⟩) hlW).trans e1; have g0 : w3.cell? ⟨w.heap.size, 0, none⟩ = some (.int .i64 0) := (HBRW.out.drew.below hb3 hlr).cell 0; have g1 : w3.cell? ⟨w.heap.size, 1, none⟩ = some (.int .i64 0) := (HBRW.out.drew.below hb3 hlr).cell 1; have k0 := (HBRW.out.drew.below hb3 hlr).frozen 0; have k1 := (HBRW.out.drew.below hb3 hlr).frozen 1; have HBK := Lib.hid (HBRW.out.drew.below hb3 hlr); have HO3 := Lib.hid ho3; have HB3 := Lib.hid (HBW.out.trans (hb3.mono HBW.out.size)); clear hb3 ho3)
  all_goals go_wp2
  all_goals
    refine bodyPost_ret (v := .tuple #[.slice A3 (popRest klt l).length c3, .agg #[.int .i64 xk, .int .i64 xt]]) (by simp [results, Try.results29, go_sem, g0, g1]) rfl ⟨A3, c3, rfl, ?_, (HB3.out.setCell (Nat.le_refl _) _).setCell (Nat.le_refl _) _⟩
    have hne : (Value.slice A3 (popRest klt l).length c3).ownBlock ≠ some w.heap.size := fun e => absurd (HO3.out.lt _ e).1 (by show ¬ W.heap.size ≤ _; omega)
    exact own_base (own_setCell_other (own_setCell_other HO3.out (p := ⟨w.heap.size, 0, none⟩) hne _) (p := ⟨w.heap.size, 1, none⟩) hne _) HBW.out.size

end Go.Proofs.Ytpglibneflefgaa
