/- For every list of items and every item, FnPushKeeps returns true: the functions that call Push leave their argument as it was. No condition. -/
import Derived.Test.YtpglibneflefgaaLawFns
import Derived.Test.YtpglibneflefgaaCallFns
import Derived.Test.YtpglibneflefgaaCallLaws
import Derived.Test.YtpglibneflefgaaPushItems
import Derived.Test.YtpglibneflefgaaEqItems
import Derived.Test.YtpglibneflefgaaArgs
import Derived.Deep.RegionHeld3
namespace Go.Proofs.Ytpglibneflefgaa
set_option linter.unusedVariables false
open Go.RowKit Go.ChangeShapes Go.WideShapes Go.ChangeAt

set_option maxHeartbeats 1600000 in
theorem fnPushKeeps_any (A : Option Addr) (c : Nat) (l : List (Int × Int)) (k t : Int) (w : World) (hs : Sees w w.heap.size 2 A l.length (ics l)) (hn : l.length * 16 ≤ 140737488351232) :
    Calls Try.prog 9 #[.slice A l.length c, .agg #[.int .i64 k, .int .i64 t]] w fun e w' => e = .returned (.bool true) ∧ Below w.heap.size w w' := by
  have Sx := Lib.hid hs
  clear hs
  have hcl : ((pushCalls (bitsN l.length) l k t).2).length ≤ 200 := by have := pushCalls_short l k t; have := bits_small' l.length hn; omega
  have hcl1 : 1 ≤ ((pushCalls (bitsN l.length) l k t).2).length := pushCalls_length l k t
  obtain ⟨CL, hCL⟩ : ∃ x : List Cal, (pushCalls (bitsN l.length) l k t).2 = x := ⟨_, rfl⟩
  rw [hCL] at hcl hcl1
  have HCL := Lib.hid hCL
  clear hCL
  have HB0 := Lib.hid (Below.refl w.heap.size w)
  go_enter Try.func9, Try.ntmps9
  go_wp2_with fail
  obtain ⟨W1, hW1⟩ : ∃ W : World, W = (w.alloc (.cells #[.int .i64 k, .int .i64 t] 34)) := ⟨_, rfl⟩
  rw [← hW1]
  have hb1 : Below w.heap.size w W1 := by rw [hW1]; exact ((Below.refl _ _).alloc (Nat.le_refl _) _)
  have hku1 : Blk W1 (w.heap.size) 34 #[.int .i64 k, .int .i64 t] := by rw [hW1]; exact Blk.new _ _ _
  have Sx_1 := Lib.hid ((Sx.out.below hb1).more hb1.size)
  have HB1 := Lib.hid (HB0.out.trans (hb1.mono HB0.out.size))
  have u0_1 : W1.cell? ⟨w.heap.size, 0, none⟩ = some (.int .i64 k) := hku1.cell 0
  have u1_1 : W1.cell? ⟨w.heap.size, 1, none⟩ = some (.int .i64 t) := hku1.cell 1
  have ltu_1 : w.heap.size < W1.heap.size := hku1.lt
  clear hku1
  clear hW1 hb1
  have hz1 : Below W1.heap.size W1 (W1.alloc (.cells #[.int .i64 0, .int .i64 0] 36)).drew := ((Below.refl _ _).alloc (Nat.le_refl _) _).drew
  have Sx_z := Lib.hid ((Sx_1.out.below hz1).more hz1.size)
  have HB_z := Lib.hid (HB1.out.trans (hz1.mono HB1.out.size))
  have u0_z := (hz1.cell (p := ⟨w.heap.size, 0, none⟩) ltu_1).trans u0_1
  have u1_z := (hz1.cell (p := ⟨w.heap.size, 1, none⟩) ltu_1).trans u1_1
  have HK_z := Lib.hid (show Blk (W1.alloc (.cells #[.int .i64 0, .int .i64 0] 36)).drew W1.heap.size 36 #[.int .i64 0, .int .i64 0] from (Blk.new W1 _ _).drew)
  have HBW := Lib.hid HB1.out.drew
  have Sx_w := Lib.hid (Sees.drewT Sx_1.out)
  have nz : W1.heap.size ≠ w.heap.size := World.new_ne W1 ⟨w.heap.size, 0, none⟩ u0_1
  clear hz1
  go_region_held3 (fun w' => w'.cell? ⟨w.heap.size, 0, none⟩ = some (.int .i64 k) ∧ w'.cell? ⟨w.heap.size, 1, none⟩ = some (.int .i64 t)) (first | go_keep | (exact ⟨by assumption, by assumption⟩))
    (first
      | (go_at_call 17; (with_reducible refine (toItems_any A c l W1.drew Sx_w.out (by omega)).mono ?_); rintro e w2 ⟨A2, c2, rfl, ho2, hb2⟩; have HB2 := Lib.hid (HBW.out.trans (hb2.mono HBW.out.size)); have Sx_2 := Lib.hid ((Sx_w.out.below hb2).more hb2.size); have u0_2 := (hb2.cell (p := ⟨w.heap.size, 0, none⟩) ltu_1).trans u0_1; have u1_2 := (hb2.cell (p := ⟨w.heap.size, 1, none⟩) ltu_1).trans u1_1; have ltu_2 := Nat.lt_of_lt_of_le ltu_1 hb2.size; have n2 : w2.heap.size ≠ w.heap.size := World.new_ne w2 ⟨w.heap.size, 0, none⟩ u0_2; have HO2 := Lib.hid ho2; clear ho2 hb2)
      | (go_at_call 17; (with_reducible refine (toItems_any A c l (W1.alloc (.cells #[.int .i64 0, .int .i64 0] 36)).drew Sx_z.out (by omega)).mono ?_); rintro e w2 ⟨A2, c2, rfl, ho2, hb2⟩; have HB2 := Lib.hid (HB_z.out.trans (hb2.mono HB_z.out.size)); have Sx_2 := Lib.hid ((Sx_z.out.below hb2).more hb2.size); have u0_2 := (hb2.cell (p := ⟨w.heap.size, 0, none⟩) (show w.heap.size < (W1.alloc (.cells #[.int .i64 0, .int .i64 0] 36)).drew.heap.size by simp; omega)).trans u0_z; have u1_2 := (hb2.cell (p := ⟨w.heap.size, 1, none⟩) (show w.heap.size < (W1.alloc (.cells #[.int .i64 0, .int .i64 0] 36)).drew.heap.size by simp; omega)).trans u1_z; have ltu_2 := Nat.lt_of_lt_of_le (show w.heap.size < (W1.alloc (.cells #[.int .i64 0, .int .i64 0] 36)).drew.heap.size by simp; omega) hb2.size; have n2 : w2.heap.size ≠ w.heap.size := World.new_ne w2 ⟨w.heap.size, 0, none⟩ u0_2; have HO2 := Lib.hid ho2; have HK2 := Lib.hid (HK_z.out.below hb2 (by simp)); have z0 : w2.cell? ⟨W1.heap.size, 0, none⟩ = some (.int .i64 0) := HK2.out.cell 0; have z1 : w2.cell? ⟨W1.heap.size, 1, none⟩ = some (.int .i64 0) := HK2.out.cell 1; have y0 : w2.frozen? ⟨W1.heap.size, 0, none⟩ = false := HK2.out.frozen 0; have y1 : w2.frozen? ⟨W1.heap.size, 1, none⟩ = false := HK2.out.frozen 1; have lz : W1.heap.size < w2.heap.size := HK2.out.lt; clear ho2 hb2))
  · obtain ⟨W3, hW3⟩ : ∃ W : World, W = (w2.alloc (.cells #[.int .i64 k, .int .i64 t] 36)) := ⟨_, rfl⟩
    rw [← hW3]
    have hb3 : Below w.heap.size w W3 := by rw [hW3]; exact HB2.out.alloc HB2.out.size _
    have ho3 := (show (w2.alloc (.cells #[.int .i64 k, .int .i64 t] 36)).ownsRow _ _ 2 (.slice A2 l.length c2) l.length (ics l) from HO2.out.alloc _)
    have hkv3 : Blk W3 (w2.heap.size) 36 #[.int .i64 k, .int .i64 t] := by rw [hW3]; exact Blk.new _ _ _
    have Sx_3 := Lib.hid ((Sx.out.below hb3).more hb3.size)
    have HB3 := Lib.hid hb3
    rw [← hW3] at ho3
    have Sa_3 := Lib.hid (Sees.of_own ho3)
    have v0_3 : W3.cell? ⟨w2.heap.size, 0, none⟩ = some (.int .i64 k) := hkv3.cell 0
    have v1_3 : W3.cell? ⟨w2.heap.size, 1, none⟩ = some (.int .i64 t) := hkv3.cell 1
    have ltv_3 : w2.heap.size < W3.heap.size := hkv3.lt
    clear hW3 hb3 hkv3 ho3 u0_1 u1_1 u0_2 u1_2 u0_z u1_z
    go_wp2_with fail
    (with_reducible refine (heapPush_any A2 c2 (l) k t W3 Sa_3.out (by omega)).mono ?_)
    rintro e w4 ⟨A4, c4, rfl, ho4, hb4⟩
    have Sx_4 := Lib.hid ((Sx_3.out.below hb4).more hb4.size)
    have Sa_4 := Lib.hid ((Sa_3.out.below hb4).more hb4.size)
    have v0_4 := (hb4.cell (p := ⟨w2.heap.size, 0, none⟩) ltv_3).trans v0_3
    have v1_4 := (hb4.cell (p := ⟨w2.heap.size, 1, none⟩) ltv_3).trans v1_3
    have ltv_4 := Nat.lt_of_lt_of_le ltv_3 hb4.size
    have HB4 := Lib.hid (HB3.out.trans (hb4.mono HB3.out.size))
    have Sr_4 := Lib.hid (Sees.of_own ho4)
    clear ho4
    clear hb4
    go_wp2_with fail
    (with_reducible refine (newc_eq (pushCalls_any (bitsN l.length) A2 c2 l k t w4 Sa_4.out (by omega) (push_fuel l) (Nat.le_trans (bits_small' l.length (by omega)) (by decide))) HCL.out).mono ?_)
    rintro e w5 ⟨A5, c5, rfl, ho5, hb5⟩
    have Sx_5 := Lib.hid ((Sx_4.out.below hb5).more hb5.size)
    have Sa_5 := Lib.hid ((Sa_4.out.below hb5).more hb5.size)
    have Sr_5 := Lib.hid ((Sr_4.out.below hb5).more hb5.size)
    have v0_5 := (hb5.cell (p := ⟨w2.heap.size, 0, none⟩) ltv_4).trans v0_4
    have v1_5 := (hb5.cell (p := ⟨w2.heap.size, 1, none⟩) ltv_4).trans v1_4
    have ltv_5 := Nat.lt_of_lt_of_le ltv_4 hb5.size
    have HB5 := Lib.hid (HB4.out.trans (hb5.mono HB4.out.size))
    have Sq_5 := Lib.hid (Sees.of_own ho5)
    clear ho5
    clear hb5
    go_wp2_with fail
    (with_reducible refine (pushItems_any A2 c2 (l) w5 Sa_5.out (by omega)).mono ?_)
    rintro e w6 ⟨A6, c6, rfl, ho6, hb6⟩
    have Sx_6 := Lib.hid ((Sx_5.out.below hb6).more hb6.size)
    have Sa_6 := Lib.hid ((Sa_5.out.below hb6).more hb6.size)
    have Sr_6 := Lib.hid ((Sr_5.out.below hb6).more hb6.size)
    have Sq_6 := Lib.hid ((Sq_5.out.below hb6).more hb6.size)
    have v0_6 := (hb6.cell (p := ⟨w2.heap.size, 0, none⟩) ltv_5).trans v0_5
    have v1_6 := (hb6.cell (p := ⟨w2.heap.size, 1, none⟩) ltv_5).trans v1_5
    have ltv_6 := Nat.lt_of_lt_of_le ltv_5 hb6.size
    have HB6 := Lib.hid (HB5.out.trans (hb6.mono HB5.out.size))
    have Sz_6 := Lib.hid (Sees.of_own ho6)
    clear ho6
    clear hb6
    have hlen : (((pushF klt l (k, t)).length : Int) == (l.length : Int) + 1) = true := by rw [beq_iff_eq, pushF_length]; simp
    go_wp2_with fail
    (with_reducible refine (toItems_any A c l w6 Sx_6.out (by omega)).mono ?_)
    rintro e w7 ⟨A7, c7, rfl, ho7, hb7⟩
    have Sx_7 := Lib.hid ((Sx_6.out.below hb7).more hb7.size)
    have Sa_7 := Lib.hid ((Sa_6.out.below hb7).more hb7.size)
    have Sr_7 := Lib.hid ((Sr_6.out.below hb7).more hb7.size)
    have Sq_7 := Lib.hid ((Sq_6.out.below hb7).more hb7.size)
    have Sz_7 := Lib.hid ((Sz_6.out.below hb7).more hb7.size)
    have v0_7 := (hb7.cell (p := ⟨w2.heap.size, 0, none⟩) ltv_6).trans v0_6
    have v1_7 := (hb7.cell (p := ⟨w2.heap.size, 1, none⟩) ltv_6).trans v1_6
    have ltv_7 := Nat.lt_of_lt_of_le ltv_6 hb7.size
    have HB7 := Lib.hid (HB6.out.trans (hb7.mono HB6.out.size))
    have Sy_7 := Lib.hid (Sees.of_own ho7)
    clear ho7
    clear hb7
    go_wp2_with fail
    (with_reducible refine (calls_val (v' := .bool true) (quiet_below (sameItems_any A2 A7 c2 c7 (l) (l) w7 _ _ Sa_7.out Sy_7.out (by omega) (by omega))) (by rw [decide_eq_true rfl])).mono ?_)
    rintro e w8 ⟨rfl, hb8⟩
    have Sx_8 := Lib.hid ((Sx_7.out.below hb8).more hb8.size)
    have Sa_8 := Lib.hid ((Sa_7.out.below hb8).more hb8.size)
    have Sr_8 := Lib.hid ((Sr_7.out.below hb8).more hb8.size)
    have Sq_8 := Lib.hid ((Sq_7.out.below hb8).more hb8.size)
    have Sz_8 := Lib.hid ((Sz_7.out.below hb8).more hb8.size)
    have Sy_8 := Lib.hid ((Sy_7.out.below hb8).more hb8.size)
    have v0_8 := (hb8.cell (p := ⟨w2.heap.size, 0, none⟩) ltv_7).trans v0_7
    have v1_8 := (hb8.cell (p := ⟨w2.heap.size, 1, none⟩) ltv_7).trans v1_7
    have ltv_8 := Nat.lt_of_lt_of_le ltv_7 hb8.size
    have HB8 := Lib.hid (HB7.out.trans (hb8.mono HB7.out.size))
    clear hb8
    go_wp2
    go_ret
    exact ⟨rfl, HB8.out⟩
  · have hne : (Value.slice A2 l.length c2).ownBlock ≠ some W1.heap.size := fun e => by have := (HO2.out.lt _ e).1; simp at this; omega
    have hle : w.heap.size ≤ W1.heap.size := Nat.le_of_lt ltu_1
    obtain ⟨W3, hW3⟩ : ∃ W : World, W = ((w2.setCell ⟨W1.heap.size, 0, none⟩ (.int .i64 k)).setCell ⟨W1.heap.size, 1, none⟩ (.int .i64 t)) := ⟨_, rfl⟩
    rw [← hW3]
    have hb3 : Below w.heap.size w W3 := by rw [hW3]; exact (HB2.out.setCell (p := ⟨W1.heap.size, 0, none⟩) hle _).setCell (p := ⟨W1.heap.size, 1, none⟩) hle _
    have ho3 := (show ((w2.setCell ⟨W1.heap.size, 0, none⟩ (.int .i64 k)).setCell ⟨W1.heap.size, 1, none⟩ (.int .i64 t)).ownsRow _ _ 2 (.slice A2 l.length c2) l.length (ics l) from own_setCell_other (own_setCell_other HO2.out hne _) hne _)
    have hkv3 : Blk W3 (W1.heap.size) 36 #[.int .i64 k, .int .i64 t] := by rw [hW3]; exact by have := (HK2.out.set_ 0 (.int .i64 k)).set_ 1 (.int .i64 t); simpa using this
    have Sx_3 := Lib.hid ((Sx.out.below hb3).more hb3.size)
    have HB3 := Lib.hid hb3
    rw [← hW3] at ho3
    have Sa_3 := Lib.hid (Sees.of_own ho3)
    have v0_3 : W3.cell? ⟨W1.heap.size, 0, none⟩ = some (.int .i64 k) := hkv3.cell 0
    have v1_3 : W3.cell? ⟨W1.heap.size, 1, none⟩ = some (.int .i64 t) := hkv3.cell 1
    have ltv_3 : W1.heap.size < W3.heap.size := hkv3.lt
    clear hW3 hb3 hkv3 ho3 u0_1 u1_1 u0_2 u1_2 u0_z u1_z
    clear z0 z1 y0 y1 hne
    go_wp2_with fail
    (with_reducible refine (heapPush_any A2 c2 (l) k t W3 Sa_3.out (by omega)).mono ?_)
    rintro e w4 ⟨A4, c4, rfl, ho4, hb4⟩
    have Sx_4 := Lib.hid ((Sx_3.out.below hb4).more hb4.size)
    have Sa_4 := Lib.hid ((Sa_3.out.below hb4).more hb4.size)
    have v0_4 := (hb4.cell (p := ⟨W1.heap.size, 0, none⟩) ltv_3).trans v0_3
    have v1_4 := (hb4.cell (p := ⟨W1.heap.size, 1, none⟩) ltv_3).trans v1_3
    have ltv_4 := Nat.lt_of_lt_of_le ltv_3 hb4.size
    have HB4 := Lib.hid (HB3.out.trans (hb4.mono HB3.out.size))
    have Sr_4 := Lib.hid (Sees.of_own ho4)
    clear ho4
    clear hb4
    go_wp2_with fail
    (with_reducible refine (newc_eq (pushCalls_any (bitsN l.length) A2 c2 l k t w4 Sa_4.out (by omega) (push_fuel l) (Nat.le_trans (bits_small' l.length (by omega)) (by decide))) HCL.out).mono ?_)
    rintro e w5 ⟨A5, c5, rfl, ho5, hb5⟩
    have Sx_5 := Lib.hid ((Sx_4.out.below hb5).more hb5.size)
    have Sa_5 := Lib.hid ((Sa_4.out.below hb5).more hb5.size)
    have Sr_5 := Lib.hid ((Sr_4.out.below hb5).more hb5.size)
    have v0_5 := (hb5.cell (p := ⟨W1.heap.size, 0, none⟩) ltv_4).trans v0_4
    have v1_5 := (hb5.cell (p := ⟨W1.heap.size, 1, none⟩) ltv_4).trans v1_4
    have ltv_5 := Nat.lt_of_lt_of_le ltv_4 hb5.size
    have HB5 := Lib.hid (HB4.out.trans (hb5.mono HB4.out.size))
    have Sq_5 := Lib.hid (Sees.of_own ho5)
    clear ho5
    clear hb5
    go_wp2_with fail
    (with_reducible refine (pushItems_any A2 c2 (l) w5 Sa_5.out (by omega)).mono ?_)
    rintro e w6 ⟨A6, c6, rfl, ho6, hb6⟩
    have Sx_6 := Lib.hid ((Sx_5.out.below hb6).more hb6.size)
    have Sa_6 := Lib.hid ((Sa_5.out.below hb6).more hb6.size)
    have Sr_6 := Lib.hid ((Sr_5.out.below hb6).more hb6.size)
    have Sq_6 := Lib.hid ((Sq_5.out.below hb6).more hb6.size)
    have v0_6 := (hb6.cell (p := ⟨W1.heap.size, 0, none⟩) ltv_5).trans v0_5
    have v1_6 := (hb6.cell (p := ⟨W1.heap.size, 1, none⟩) ltv_5).trans v1_5
    have ltv_6 := Nat.lt_of_lt_of_le ltv_5 hb6.size
    have HB6 := Lib.hid (HB5.out.trans (hb6.mono HB5.out.size))
    have Sz_6 := Lib.hid (Sees.of_own ho6)
    clear ho6
    clear hb6
    have hlen : (((pushF klt l (k, t)).length : Int) == (l.length : Int) + 1) = true := by rw [beq_iff_eq, pushF_length]; simp
    go_wp2_with fail
    (with_reducible refine (toItems_any A c l w6 Sx_6.out (by omega)).mono ?_)
    rintro e w7 ⟨A7, c7, rfl, ho7, hb7⟩
    have Sx_7 := Lib.hid ((Sx_6.out.below hb7).more hb7.size)
    have Sa_7 := Lib.hid ((Sa_6.out.below hb7).more hb7.size)
    have Sr_7 := Lib.hid ((Sr_6.out.below hb7).more hb7.size)
    have Sq_7 := Lib.hid ((Sq_6.out.below hb7).more hb7.size)
    have Sz_7 := Lib.hid ((Sz_6.out.below hb7).more hb7.size)
    have v0_7 := (hb7.cell (p := ⟨W1.heap.size, 0, none⟩) ltv_6).trans v0_6
    have v1_7 := (hb7.cell (p := ⟨W1.heap.size, 1, none⟩) ltv_6).trans v1_6
    have ltv_7 := Nat.lt_of_lt_of_le ltv_6 hb7.size
    have HB7 := Lib.hid (HB6.out.trans (hb7.mono HB6.out.size))
    have Sy_7 := Lib.hid (Sees.of_own ho7)
    clear ho7
    clear hb7
    go_wp2_with fail
    (with_reducible refine (calls_val (v' := .bool true) (quiet_below (sameItems_any A2 A7 c2 c7 (l) (l) w7 _ _ Sa_7.out Sy_7.out (by omega) (by omega))) (by rw [decide_eq_true rfl])).mono ?_)
    rintro e w8 ⟨rfl, hb8⟩
    have Sx_8 := Lib.hid ((Sx_7.out.below hb8).more hb8.size)
    have Sa_8 := Lib.hid ((Sa_7.out.below hb8).more hb8.size)
    have Sr_8 := Lib.hid ((Sr_7.out.below hb8).more hb8.size)
    have Sq_8 := Lib.hid ((Sq_7.out.below hb8).more hb8.size)
    have Sz_8 := Lib.hid ((Sz_7.out.below hb8).more hb8.size)
    have Sy_8 := Lib.hid ((Sy_7.out.below hb8).more hb8.size)
    have v0_8 := (hb8.cell (p := ⟨W1.heap.size, 0, none⟩) ltv_7).trans v0_7
    have v1_8 := (hb8.cell (p := ⟨W1.heap.size, 1, none⟩) ltv_7).trans v1_7
    have ltv_8 := Nat.lt_of_lt_of_le ltv_7 hb8.size
    have HB8 := Lib.hid (HB7.out.trans (hb8.mono HB7.out.size))
    clear hb8
    go_wp2
    go_ret
    exact ⟨rfl, HB8.out⟩

set_option maxRecDepth 100000 in
theorem fnPushKeeps_contract (H : Type) (enc : TypeId × Value → H) (W : World) (base : Nat) (args : Array Value) (ds gs : List (DataW H)) (before : List MemPlace)
    (hval : ∀ (j : Nat) t v, Try.f9.params[j]? = some t → args[j]? = some v → Value.okWide Try.prog W .any base t v)
    (hW : DataW.Whole enc Try.prog Try.f9.params.toList Rows.fnPushKeepsSpec.vars false W args.toList ds gs before)
    (hsz : (DataW.weightsEach Try.prog (Try.f9.params.toList ++ Rows.fnPushKeepsSpec.plain.varTypes Try.prog) (ds ++ gs)).all (· ≤ reachBytes) = true) :
    Calls Try.prog 9 args W fun e W' => ∃ v, e = .returned v ∧ Rows.fnPushKeepsSpec.post enc Try.prog Try.f9 false true false false W args v W' := by
  have hW' := hW
  obtain ⟨p, q, hA0, hV, rfl, hfz, hnd⟩ := hW
  have hA : DataW.TrodAll enc Try.prog W 0 (fun _ => true) true Try.f9.params.toList args.toList ds p := hA0
  rw [Try.params9] at hA hval hsz
  obtain ⟨v0, vs0, d0, ds0, p0, q0, hargs, rfl, rfl, h0, r0⟩ := trodAll_cons hA
  obtain ⟨v1, vs1, d1, ds1, p1, q1, rfl, rfl, rfl, h1, r1⟩ := trodAll_cons r0
  obtain ⟨rfl, rfl, rfl⟩ := trodAll_nil r1
  obtain rfl : args = #[v0, v1] := by cases args; simp_all
  obtain ⟨rfl, rfl⟩ := trodVars_none hV
  have k0 := h0
  have lt0 : ∀ x ∈ p0, x.block < W.heap.size := by obtain ⟨m, hm⟩ := k0; exact DataW.trod_lt m _ _ _ hm
  have k1 := h1
  have lt1 : ∀ x ∈ p1, x.block < W.heap.size := by obtain ⟨m, hm⟩ := k1; exact DataW.trod_lt m _ _ _ hm
  obtain ⟨a0, len0, c0, rfl⟩ := okWide_slice Try.underlying22 (hval 0 22 v0 rfl rfl)
  obtain ⟨l0, rfl, hs0, hd0⟩ := open_items Try.underlying22 Try.underlying34 (by kernel_rfl) rfl rfl (by kernel_rfl) (by kernel_rfl) Try.underlying3 Try.underlying3 h0
  have hn0 := items_reach hsz (j := 0) rfl rfl Try.underlying22 (by kernel_rfl) hd0
  obtain ⟨x1, y1, rfl, hd1⟩ := open_item Try.underlying34 (by kernel_rfl) (by kernel_rfl) Try.underlying3 Try.underlying3 (hval 1 34 v1 rfl rfl) h1
  clear hA0 hsz
  refine (fnPushKeeps_any a0 c0 l0 x1 y1 W hs0 hn0).mono fun e W' ⟨he, bel⟩ => ?_
  subst he
  exact ⟨_, rfl, _, _, _, [], _, [], hW', trodAll_mk1 (shut_bool Try.underlying4 _), (trodAll_cons_mk (Below.trod Try.laidOut (by kernel_rfl) (of_decide_eq_true (by kernel_rfl)) k0 bel lt0) (trodAll_cons_mk (Below.trod Try.laidOut (by kernel_rfl) (of_decide_eq_true (by kernel_rfl)) k1 bel lt1) trodAll_mk0)), rfl, bel.frame _, fun h => by cases h⟩

set_option maxRecDepth 100000 in
theorem fnPushKeeps_lifted (os : Os) (started : os.Started) (H : Type) (enc : TypeId × Value → H) :
    ReturnsInHanded {} Try.checked os 9 .any (Rows.fnPushKeepsSpec.pre6 enc Try.prog Try.f9 Rows.fnPushKeepsRow.domain false) (Rows.fnPushKeepsSpec.post enc Try.prog Try.f9 false true false false) := by
  refine returnsInHanded_of_change_sized (C := Try.checked) Try.own started (by kernel_rfl) Try.func9
    (ChangeSpec.witness6 (enc := enc) (C := Try.checked) false ⟨#[], #[.slice none 0 0, .agg #[.int .i64 0, .int .i64 0]], []⟩ 8 (by kernel_rfl) (by kernel_rfl) (by kernel_rfl) (by kernel_rfl)) ?_
  intro W base args ds gs before hval hW _ hsz _
  exact fnPushKeeps_contract H enc W base args ds gs before hval hW hsz

theorem fnPushKeeps_holds : Rows.FnPushKeepsSaid :=
  OpenClaim.holds_of_wide 9 Try.f9 rfl rfl rfl rfl rfl rfl rfl ⟨rfl, rfl, rfl, rfl, rfl⟩ rfl rfl rfl rfl rfl (by kernel_rfl) Try.func9 (by kernel_rfl)
    (of_decide_eq_true (by kernel_rfl)) (by unfold Func.isWrapper; first | (rw [if_pos (by decide +kernel)]; kernel_rfl) | (rw [if_neg (by decide +kernel)]; exact ⟨rfl, rfl⟩))
    (fun os started H enc _ => fnPushKeeps_lifted os started H enc)
#print axioms fnPushKeeps_holds
end Go.Proofs.Ytpglibneflefgaa
