/- The laws' own functions on items: withItem. -/
import Derived.Test.YtdccdihkkfhadaaItemFns
namespace Go.Proofs.Ytdccdihkkfhadaa
set_option linter.unusedVariables false
open Go.RowKit

theorem sees_blk {w : World} {g : Nat} {t : TypeId} {cs : Array Value} {size n : Nat} (h : Blk w g t cs) (hs : cs.size = n * size) : Sees w (g + 1) size (some ⟨g, 0, none⟩) n cs.toList :=
  ⟨by simpa using hs, fun _ => ⟨g, 0, rfl, by omega, fun j u hu => by rw [Nat.zero_add, h.cell]; simpa using hu⟩⟩

set_option maxHeartbeats 400000 in
theorem withItem_any (A : Option Addr) (c : Nat) (l : List (Int × Int)) (k t : Int) (w : World) (hs : Sees w w.heap.size 2 A l.length (ics l)) (hn : (l.length + 1) * 16 ≤ 140737488355328) :
    Calls Try.prog 22 #[.slice A l.length c, .agg #[.int .i64 k, .int .i64 t]] w (NewItems w (l ++ [(k, t)])) := by
  obtain ⟨i0, hi, hz0, hz1, hz2⟩ := info_parts info_item
  have HS := Lib.hid (hs.alloc (Nat.le_refl _) (.cells #[.int .i64 k, .int .i64 t] 32))
  clear hs
  go_enter Try.func22, Try.ntmps22
  go_wp2
  obtain ⟨W, hW⟩ : ∃ W, W = w.alloc (.cells #[.int .i64 k, .int .i64 t] 32) := ⟨_, rfl⟩
  rw [← hW] at HS ⊢
  have hbx : Blk W w.heap.size 32 #[.int .i64 k, .int .i64 t] := by rw [hW]; exact Blk.new _ _ _
  have d0 : W.cell? ⟨w.heap.size, 0, none⟩ = some (.int .i64 k) := hbx.cell 0
  have d1 : W.cell? ⟨w.heap.size, 1, none⟩ = some (.int .i64 t) := hbx.cell 1
  have hlt : w.heap.size < W.heap.size := hbx.lt
  have HBW := Lib.hid (show Below w.heap.size w W by rw [hW]; exact (Below.refl _ _).alloc (Nat.le_refl _) _)
  clear hW hbx
  go_region_law (first
    | (
       (refine step_append_row _ rfl (.const (.slice none 0 0)) (.tmp 5) 23 rfl w.heap.size 32 i0 _ 2 16 Try.underlying23 hi hz0 hz1 hz2 rfl (by decide) (.slice none 0 0) 0 [] rfl (World.ownsRow_nil _ _ _ _) w.heap.size A l.length c (ics l) rfl ?_ (ics_cells l) ?_ ?_ ?_ ?_)
       · exact HS.out.drew
       · unfold maxLen; omega
       · omega
       · (show w.heap.size ≤ W.heap.size; omega)
       intro A1 c1 w1 hown1 hg1 _
       simp only [Nat.zero_add, List.nil_append] at hown1 ⊢
       have HB1 := Lib.hid (HBW.out.drew.grown hg1 (by show w.heap.size ≤ W.heap.size; omega) (by simp [Value.ownBlock]))
       have f0 : w1.cell? ⟨w.heap.size, 0, none⟩ = some (.int .i64 k) := hg1.cell (w := W.drew) d0 (by simp [Value.ownBlock])
       have f1 : w1.cell? ⟨w.heap.size, 1, none⟩ = some (.int .i64 t) := hg1.cell (w := W.drew) d1 (by simp [Value.ownBlock])
       have HO1 := Lib.hid hown1
       clear hown1 hg1)
    | (
       (refine step_append_row _ rfl (.const (.slice none 0 0)) (.tmp 5) 23 rfl w.heap.size 32 i0 _ 2 16 Try.underlying23 hi hz0 hz1 hz2 rfl (by decide) (.slice none 0 0) 0 [] rfl (World.ownsRow_nil _ _ _ _) w.heap.size A l.length c (ics l) rfl ?_ (ics_cells l) ?_ ?_ ?_ ?_)
       · exact (HS.out.alloc (by omega) _).drew
       · unfold maxLen; omega
       · omega
       · (show w.heap.size ≤ (W.alloc _).heap.size; simp; omega)
       intro A1 c1 w1 hown1 hg1 _
       simp only [Nat.zero_add, List.nil_append] at hown1 ⊢
       have HB1 := Lib.hid ((HBW.out.alloc HBW.out.size _).drew.grown hg1 (by show w.heap.size ≤ (W.alloc _).heap.size; simp; omega) (by simp [Value.ownBlock]))
       have HN1 := Lib.hid (show Blk w1 W.heap.size 32 #[.int .i64 k, .int .i64 t] from (Blk.new W _ _).drew.grown hg1 (by simp [Value.ownBlock]))
       have HO1 := Lib.hid hown1
       clear hown1 hg1)
    | (
       (refine step_append_row _ rfl (.tmp 6) (.tmp 8) 23 rfl w.heap.size 32 i0 _ 2 16 Try.underlying23 hi hz0 hz1 hz2 rfl (by decide) (.slice A1 l.length c1) l.length (ics l) rfl ?_ (w1.heap.size + 1) (some ⟨w1.heap.size, 0, none⟩) 1 1 [.int .i64 k, .int .i64 t] rfl ?_ (two_cells _ _) ?_ ?_ ?_ ?_)
       · exact HO1.out.alloc _
       · exact sees_new rfl
       · unfold maxLen; omega
       · omega
       · have := HB1.out.size; simp; omega
       intro A2 c2 w2 hown2 hg2 _
       have HO2 := Lib.hid hown2
       have HB2 := Lib.hid ((HB1.out.alloc HB1.out.size _).grown hg2 (by have := HB1.out.size; simp; omega) (fun g hg => (HO1.out.lt g hg).1))
       clear hown2 hg2)
    | (
       (refine step_append_row _ rfl (.tmp 6) (.tmp 8) 23 rfl w.heap.size 32 i0 _ 2 16 Try.underlying23 hi hz0 hz1 hz2 rfl (by decide) (.slice A1 l.length c1) l.length (ics l) rfl ?_ (W.heap.size + 1) (some ⟨W.heap.size, 0, none⟩) 1 1 [.int .i64 k, .int .i64 t] rfl ?_ (two_cells _ _) ?_ ?_ ?_ ?_)
       · exact HO1.out
       · exact sees_blk HN1.out rfl
       · unfold maxLen; omega
       · omega
       · exact HB1.out.size
       intro A2 c2 w2 hown2 hg2 _
       have HO2 := Lib.hid hown2
       have HB2 := Lib.hid (HB1.out.grown hg2 HB1.out.size (fun g hg => (HO1.out.lt g hg).1))
       clear hown2 hg2))
  all_goals go_wp2
  all_goals go_ret
  all_goals exact ⟨A2, c2, by rw [show (l ++ [(k, t)]).length = l.length + 1 by simp]; rfl, by rw [show (l ++ [(k, t)]).length = l.length + 1 by simp, ics_append]; exact HO2.out, HB2.out⟩
end Go.Proofs.Ytdccdihkkfhadaa
