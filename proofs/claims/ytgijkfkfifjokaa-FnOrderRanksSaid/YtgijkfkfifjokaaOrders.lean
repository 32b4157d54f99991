/- toOrder: an Order in new memory. -/
import Derived.Test.YtgijkfkfifjokaaBefore
import Derived.Deep.RegionLaw
namespace Go.Proofs.Ytgijkfkfifjokaa
set_option linter.unusedVariables false
open Go.RowKit

theorem info_bool : (Try.prog.info? 4).map (fun i => (i.zero, i.size, i.bytes)) = some (some (.bool false), 1, 1) := by kernel_rfl
theorem bools_cells (l : List Bool) : ∀ u ∈ l.map Value.bool, u.oneCell' = true := by
  intro u hu
  obtain ⟨x, _, rfl⟩ := List.mem_map.1 hu
  rfl
/-- A new order is handed back; nothing that was there has turned. -/
def NewOrder (w : World) (sz : Int) (bs : List Bool) (e : Ending) (w' : World) : Prop :=
  ∃ A c, e = .returned (.agg #[.int .i64 sz, .slice A bs.length c]) ∧ w'.ownsRow w.heap.size 4 1 (.slice A bs.length c) bs.length (bs.map Value.bool) ∧ Below w.heap.size w w'

set_option maxHeartbeats 800000 in
theorem toOrder_any (sz : Int) (Ab : Option Addr) (cb : Nat) (bs : List Bool) (w : World) (hs : Sees w w.heap.size 1 Ab bs.length (bs.map Value.bool)) (hn : bs.length ≤ 140737488355328) :
    Calls Try.prog 16 #[.agg #[.int .i64 sz, .slice Ab bs.length cb]] w (NewOrder w sz bs) := by
  obtain ⟨i0, hi, hz0, hz1, hz2⟩ := info_parts info_bool
  have HS := Lib.hid hs
  clear hs
  go_enter Try.func16, Try.ntmps16
  go_wp2_with fail
  obtain ⟨W, hW⟩ : ∃ W : World, W = (w.alloc (.cells #[.int .i64 sz, .slice Ab bs.length cb] 24)).alloc (.cells #[.int .i64 0, .slice none 0 0] 28) := ⟨_, rfl⟩
  rw [← hW]
  have hb : Below w.heap.size w W := by rw [hW]; exact ((Below.refl _ _).alloc (Nat.le_refl _) _).alloc (by simp) _
  have hk : Blk W w.heap.size 24 #[.int .i64 sz, .slice Ab bs.length cb] := by rw [hW]; exact (Blk.new _ _ _).alloc _
  have hr : Blk W (w.heap.size + 1) 28 #[.int .i64 0, .slice none 0 0] := by rw [hW]; have := Blk.new (w.alloc (.cells #[.int .i64 sz, .slice Ab bs.length cb] 24)) 28 #[.int .i64 0, .slice none 0 0]; simpa only [size_alloc_] using this
  have e0 : W.cell? ⟨w.heap.size, 0, none⟩ = some (.int .i64 sz) := hk.cell 0
  have e1 : W.cell? ⟨w.heap.size, 1, none⟩ = some (.slice Ab bs.length cb) := hk.cell 1
  have hlW : w.heap.size < W.heap.size := hk.lt
  have hlr : w.heap.size + 1 < W.heap.size := hr.lt
  have HR := Lib.hid hr
  have HK := Lib.hid hk
  have SX := Lib.hid (HS.out.below hb)
  have HB := Lib.hid hb
  clear hW hb hk hr
  go_region_law ((
    (refine step_append_row _ rfl (.const (.slice none 0 0)) (.tmp 6) 22 rfl w.heap.size 4 i0 _ 1 1 Try.underlying22 hi hz0 hz1 hz2 rfl (by decide) (.slice none 0 0) 0 [] rfl (World.ownsRow_nil _ _ _ _) w.heap.size Ab bs.length cb (bs.map Value.bool) rfl ?_ (bools_cells bs) ?_ ?_ ?_ ?_)
    · exact SX.out.drew
    · unfold maxLen; omega
    · omega
    · exact Nat.le_of_lt hlW
    intro A1 c1 w1 ho1 hg1 _
    simp only [Nat.zero_add, List.nil_append] at ho1 ⊢
    have hk1 : Blk w1 w.heap.size 24 #[.int .i64 sz, .slice Ab bs.length cb] := HK.out.drew.grown hg1 (fun e => by cases e)
    have hr1 : Blk w1 (w.heap.size + 1) 28 #[.int .i64 0, .slice none 0 0] := HR.out.drew.grown hg1 (fun e => by cases e)
    have f0 : w1.cell? ⟨w.heap.size, 0, none⟩ = some (.int .i64 sz) := hk1.cell 0
    have f1 : w1.cell? ⟨w.heap.size, 1, none⟩ = some (.slice Ab bs.length cb) := hk1.cell 1
    have g0 : w1.cell? ⟨w.heap.size + 1, 0, none⟩ = some (.int .i64 0) := hr1.cell 0
    have g1 : w1.cell? ⟨w.heap.size + 1, 1, none⟩ = some (.slice none 0 0) := hr1.cell 1
    have k0 : w1.frozen? ⟨w.heap.size + 1, 0, none⟩ = false := hr1.frozen 0
    have k1 : w1.frozen? ⟨w.heap.size + 1, 1, none⟩ = false := hr1.frozen 1
    have hl1 : w.heap.size < w1.heap.size := hk1.lt
    have hl2 : w.heap.size + 1 < w1.heap.size := hr1.lt
    have HO1 := Lib.hid ho1
    have HR1 := Lib.hid hr1
    have HB1 := Lib.hid (HB.out.drew.grown hg1 (Nat.le_of_lt hlW) (by simp [Value.ownBlock]))
    clear hk1 hr1 ho1 hg1))
  all_goals go_wp2
  all_goals
    refine bodyPost_ret (v := .agg #[.int .i64 sz, .slice A1 bs.length c1]) (by simp [results, Try.results16, go_sem, g0, g1]) rfl ⟨A1, c1, rfl, ?_, (HB1.out.setCell (by simp) _).setCell (by simp) _⟩
    have hne := own_blk_ne HO1.out HR1.out (by decide)
    exact own_setCell_other (own_setCell_other HO1.out hne _) hne _
/-- precedes in a later world. -/
theorem precedes_from (sz : Int) (Ab : Option Addr) (cb : Nat) (bs : List Bool) (a b : Int) (W w : World) (hs : Sees W W.heap.size 1 Ab bs.length (bs.map Value.bool)) (hb : Below W.heap.size W w) (hn : bs.length ≤ 140737488355328) (hwz : -9223372036854775808 ≤ sz ∧ sz ≤ 9223372036854775807) (hwa : -9223372036854775808 ≤ a ∧ a ≤ 9223372036854775807) (hwb : -9223372036854775808 ≤ b ∧ b ≤ 9223372036854775807) :
    Calls Try.prog 18 #[.agg #[.int .i64 sz, .slice Ab bs.length cb], .int .i64 a, .int .i64 b] w fun e w' => e = .returned (.bool (bef sz bs a b)) ∧ Below W.heap.size W w' := by
  refine (precedes_any sz Ab cb bs a b w W.heap.size (hs.below hb) hb.size hn hwz hwa hwb).mono ?_
  rintro e w' ⟨rfl, q, rfl⟩
  exact ⟨rfl, below_drewN (hb.alloc hb.size _) q⟩
end Go.Proofs.Ytgijkfkfifjokaa
