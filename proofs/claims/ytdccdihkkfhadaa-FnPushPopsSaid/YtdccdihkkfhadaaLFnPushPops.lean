/- For every list of items and every item, FnPushPops returns true: pops after a Push onto a list with heap order return its elements and the new one in ascending order. No condition. -/
import Derived.Test.YtdccdihkkfhadaaSameItems
import Derived.Test.YtdccdihkkfhadaaItemLaws
import Derived.Test.YtdccdihkkfhadaaWithItem
import Derived.Test.YtdccdihkkfhadaaAscItems
import Derived.Test.YtdccdihkkfhadaaPopItems
import Derived.Test.YtdccdihkkfhadaaArgs
import Derived.Deep.RegionHeld3
namespace Go.Proofs.Ytdccdihkkfhadaa
set_option linter.unusedVariables false
open Go.RowKit Go.ChangeShapes Go.WideShapes Go.ChangeAt

set_option maxHeartbeats 400000 in
theorem fnPushPops_any (A : Option Addr) (c : Nat) (l : List (Int × Int)) (k t : Int) (w : World) (hs : Sees w w.heap.size 2 A l.length (ics l)) (hn : l.length * 16 ≤ 140737488351232) :
    Calls Try.prog 9 #[.slice A l.length c, .agg #[.int .i64 k, .int .i64 t]] w fun e w' => e = .returned (.bool true) ∧ Below w.heap.size w w' := by
  have Sx := Lib.hid hs
  clear hs
  by_cases hp : HeapOrd l
  · have HB0 := Lib.hid (Below.refl w.heap.size w)
    go_enter Try.func9, Try.ntmps9
    obtain ⟨Ly, hLy⟩ : ∃ Ly : List (Int × Int), l ++ [(k, t)] = Ly := ⟨_, rfl⟩
    have HLy := Lib.hid hLy
    clear hLy
    go_wp2_with fail
    obtain ⟨W1, hW1⟩ : ∃ W : World, W = (w.alloc (.cells #[.int .i64 k, .int .i64 t] 30)) := ⟨_, rfl⟩
    rw [← hW1]
    have hb1 : Below w.heap.size w W1 := by rw [hW1]; exact ((Below.refl _ _).alloc (Nat.le_refl _) _)
    have hku1 : Blk W1 (w.heap.size) 30 #[.int .i64 k, .int .i64 t] := by rw [hW1]; exact Blk.new _ _ _
    have Sx_1 := Lib.hid ((Sx.out.below hb1).more hb1.size)
    have HB1 := Lib.hid (HB0.out.trans (hb1.mono HB0.out.size))
    have u0_1 : W1.cell? ⟨w.heap.size, 0, none⟩ = some (.int .i64 k) := hku1.cell 0
    have u1_1 : W1.cell? ⟨w.heap.size, 1, none⟩ = some (.int .i64 t) := hku1.cell 1
    have ltu_1 : w.heap.size < W1.heap.size := hku1.lt
    clear hku1
    clear hW1 hb1
    go_wp2_with fail
    (with_reducible refine (toItems_any A c l W1 Sx_1.out (by omega)).mono ?_)
    rintro e w2 ⟨A2, c2, rfl, ho2, hb2⟩
    have Sx_2 := Lib.hid ((Sx_1.out.below hb2).more hb2.size)
    have u0_2 := (hb2.cell (p := ⟨w.heap.size, 0, none⟩) ltu_1).trans u0_1
    have u1_2 := (hb2.cell (p := ⟨w.heap.size, 1, none⟩) ltu_1).trans u1_1
    have ltu_2 := Nat.lt_of_lt_of_le ltu_1 hb2.size
    have HB2 := Lib.hid (HB1.out.trans (hb2.mono HB1.out.size))
    have Sa_2 := Lib.hid (Sees.of_own ho2)
    clear ho2
    clear hb2
    go_wp2_with fail
    (with_reducible refine (calls_val (v' := .bool true) (quiet_below (heapOrdered_any A2 c2 (l) w2 _ Sa_2.out (by omega))) (by rw [(hoB_iff _).2 hp])).mono ?_)
    rintro e w3 ⟨rfl, hb3⟩
    have Sx_3 := Lib.hid ((Sx_2.out.below hb3).more hb3.size)
    have Sa_3 := Lib.hid ((Sa_2.out.below hb3).more hb3.size)
    have u0_3 := (hb3.cell (p := ⟨w.heap.size, 0, none⟩) ltu_2).trans u0_2
    have u1_3 := (hb3.cell (p := ⟨w.heap.size, 1, none⟩) ltu_2).trans u1_2
    have ltu_3 := Nat.lt_of_lt_of_le ltu_2 hb3.size
    have HB3 := Lib.hid (HB2.out.trans (hb3.mono HB2.out.size))
    clear hb3
    go_wp2_with fail
    obtain ⟨W4, hW4⟩ : ∃ W : World, W = (w3.alloc (.cells #[.int .i64 k, .int .i64 t] 32)) := ⟨_, rfl⟩
    rw [← hW4]
    have hb4 : Below w3.heap.size w3 W4 := by rw [hW4]; exact ((Below.refl _ _).alloc (Nat.le_refl _) _)
    have hkv4 : Blk W4 (w3.heap.size) 32 #[.int .i64 k, .int .i64 t] := by rw [hW4]; exact Blk.new _ _ _
    have Sx_4 := Lib.hid ((Sx_3.out.below hb4).more hb4.size)
    have Sa_4 := Lib.hid ((Sa_3.out.below hb4).more hb4.size)
    have u0_4 := (hb4.cell (p := ⟨w.heap.size, 0, none⟩) ltu_3).trans u0_3
    have u1_4 := (hb4.cell (p := ⟨w.heap.size, 1, none⟩) ltu_3).trans u1_3
    have ltu_4 := Nat.lt_of_lt_of_le ltu_3 hb4.size
    have HB4 := Lib.hid (HB3.out.trans (hb4.mono HB3.out.size))
    have v0_4 : W4.cell? ⟨w3.heap.size, 0, none⟩ = some (.int .i64 k) := hkv4.cell 0
    have v1_4 : W4.cell? ⟨w3.heap.size, 1, none⟩ = some (.int .i64 t) := hkv4.cell 1
    have ltv_4 : w3.heap.size < W4.heap.size := hkv4.lt
    clear hkv4
    clear hW4 hb4
    have Sx_4d := Lib.hid (Sees.drewT Sx_4.out)
    have Sa_4d := Lib.hid (Sees.drewT Sa_4.out)
    have HB4d := Lib.hid HB4.out.drew
    go_region_held3 (fun w' => w'.cell? ⟨w.heap.size, 0, none⟩ = some (.int .i64 k) ∧ w'.cell? ⟨w.heap.size, 1, none⟩ = some (.int .i64 t) ∧ w'.cell? ⟨w3.heap.size, 0, none⟩ = some (.int .i64 k) ∧ w'.cell? ⟨w3.heap.size, 1, none⟩ = some (.int .i64 t)) (first | go_keep | (exact ⟨by assumption, by assumption, by assumption, by assumption⟩))
      (first
        | (go_at_call 23; (with_reducible refine (popItems_any A6 c6 (pushF klt l (k, t)) w6 Sq_6.out (by simp only [pushF_length]; omega)).mono ?_); rintro e w7 ⟨A7, c7, rfl, ho7, hb7⟩; have Sx_7 := Lib.hid ((Sx_6.out.below hb7).more hb7.size); have Sa_7 := Lib.hid ((Sa_6.out.below hb7).more hb7.size); have Sb_7 := Lib.hid ((Sb_6.out.below hb7).more hb7.size); have Sq_7 := Lib.hid ((Sq_6.out.below hb7).more hb7.size); have u0_7 := (hb7.cell (p := ⟨w.heap.size, 0, none⟩) ltu_6).trans u0_6; have u1_7 := (hb7.cell (p := ⟨w.heap.size, 1, none⟩) ltu_6).trans u1_6; have ltu_7 := Nat.lt_of_lt_of_le ltu_6 hb7.size; have v0_7 := (hb7.cell (p := ⟨w3.heap.size, 0, none⟩) ltv_6).trans v0_6; have v1_7 := (hb7.cell (p := ⟨w3.heap.size, 1, none⟩) ltv_6).trans v1_6; have ltv_7 := Nat.lt_of_lt_of_le ltv_6 hb7.size; have HB7 := Lib.hid (HB6.out.trans (hb7.mono HB6.out.size)); have Sr_7 := Lib.hid (Sees.of_own ho7); clear ho7; clear hb7)
        | (go_at_call 20; (with_reducible refine (heapPush_any A5 c5 (l) k t w5 Sb_5.out (by omega)).mono ?_); rintro e w6 ⟨A6, c6, rfl, ho6, hb6⟩; have Sx_6 := Lib.hid ((Sx_5.out.below hb6).more hb6.size); have Sa_6 := Lib.hid ((Sa_5.out.below hb6).more hb6.size); have Sb_6 := Lib.hid ((Sb_5.out.below hb6).more hb6.size); have u0_6 := (hb6.cell (p := ⟨w.heap.size, 0, none⟩) ltu_5).trans u0_5; have u1_6 := (hb6.cell (p := ⟨w.heap.size, 1, none⟩) ltu_5).trans u1_5; have ltu_6 := Nat.lt_of_lt_of_le ltu_5 hb6.size; have v0_6 := (hb6.cell (p := ⟨w3.heap.size, 0, none⟩) ltv_5).trans v0_5; have v1_6 := (hb6.cell (p := ⟨w3.heap.size, 1, none⟩) ltv_5).trans v1_5; have ltv_6 := Nat.lt_of_lt_of_le ltv_5 hb6.size; have HB6 := Lib.hid (HB5.out.trans (hb6.mono HB5.out.size)); have Sq_6 := Lib.hid (Sees.of_own ho6); clear ho6; clear hb6)
        | (go_at_call 16; (with_reducible refine (toItems_any A c l W4.drew Sx_4d.out (by omega)).mono ?_); rintro e w5 ⟨A5, c5, rfl, ho5, hb5⟩; have Sx_5 := Lib.hid ((Sx_4d.out.below hb5).more hb5.size); have Sa_5 := Lib.hid ((Sa_4d.out.below hb5).more hb5.size); have u0_5 := (hb5.cell (p := ⟨w.heap.size, 0, none⟩) ltu_4).trans u0_4; have u1_5 := (hb5.cell (p := ⟨w.heap.size, 1, none⟩) ltu_4).trans u1_4; have ltu_5 := Nat.lt_of_lt_of_le ltu_4 hb5.size; have v0_5 := (hb5.cell (p := ⟨w3.heap.size, 0, none⟩) ltv_4).trans v0_4; have v1_5 := (hb5.cell (p := ⟨w3.heap.size, 1, none⟩) ltv_4).trans v1_4; have ltv_5 := Nat.lt_of_lt_of_le ltv_4 hb5.size; have HB5 := Lib.hid (HB4d.out.trans (hb5.mono HB4d.out.size)); have Sb_5 := Lib.hid (Sees.of_own ho5); clear ho5; clear hb5))
    go_wp2_with fail
    have Sx_7d := Lib.hid (Sees.drewT Sx_7.out)
    have Sa_7d := Lib.hid (Sees.drewT Sa_7.out)
    have Sb_7d := Lib.hid (Sees.drewT Sb_7.out)
    have Sq_7d := Lib.hid (Sees.drewT Sq_7.out)
    have Sr_7d := Lib.hid (Sees.drewT Sr_7.out)
    have HB7d := Lib.hid HB7.out.drew
    go_region_held3 (fun w' => w'.cell? ⟨w.heap.size, 0, none⟩ = some (.int .i64 k) ∧ w'.cell? ⟨w.heap.size, 1, none⟩ = some (.int .i64 t) ∧ w'.cell? ⟨w3.heap.size, 0, none⟩ = some (.int .i64 k) ∧ w'.cell? ⟨w3.heap.size, 1, none⟩ = some (.int .i64 t)) (first | go_keep | (exact ⟨by assumption, by assumption, by assumption, by assumption⟩))
      (first
        | (go_at_call 18; (with_reducible refine (calls_val (v' := .bool true) (sameElements_any A7 A10 c7 c10 (popsF klt (0, 0) (pushF klt l (k, t)).length (pushF klt l (k, t))) (Ly) w10 Sr_10.out Sy_10.out (by simp only [pushF_length, popsF_length]; omega) (by rw [← HLy.out]; simp only [List.length_append, List.length_cons, List.length_nil]; omega)) (by rw [← HLy.out, sameB_perm ((popsF_perm klt (0, 0) _ _ rfl).trans (pushF_perm klt l (k, t)))])).mono ?_); rintro e w11 ⟨rfl, hb11⟩; have Sx_11 := Lib.hid ((Sx_10.out.below hb11).more hb11.size); have Sa_11 := Lib.hid ((Sa_10.out.below hb11).more hb11.size); have Sb_11 := Lib.hid ((Sb_10.out.below hb11).more hb11.size); have Sq_11 := Lib.hid ((Sq_10.out.below hb11).more hb11.size); have Sr_11 := Lib.hid ((Sr_10.out.below hb11).more hb11.size); have Sd_11 := Lib.hid ((Sd_10.out.below hb11).more hb11.size); have Sy_11 := Lib.hid ((Sy_10.out.below hb11).more hb11.size); have u0_11 := (hb11.cell (p := ⟨w.heap.size, 0, none⟩) ltu_10).trans u0_10; have u1_11 := (hb11.cell (p := ⟨w.heap.size, 1, none⟩) ltu_10).trans u1_10; have ltu_11 := Nat.lt_of_lt_of_le ltu_10 hb11.size; have v0_11 := (hb11.cell (p := ⟨w3.heap.size, 0, none⟩) ltv_10).trans v0_10; have v1_11 := (hb11.cell (p := ⟨w3.heap.size, 1, none⟩) ltv_10).trans v1_10; have ltv_11 := Nat.lt_of_lt_of_le ltv_10 hb11.size; have HB11 := Lib.hid (HB10.out.trans (hb11.mono HB10.out.size)); clear hb11)
        | (go_at_call 22; (with_reducible refine (new_eq (withItem_any A9 c9 (l) k t w9 Sd_9.out (by omega)) HLy.out).mono ?_); rintro e w10 ⟨A10, c10, rfl, ho10, hb10⟩; have Sx_10 := Lib.hid ((Sx_9.out.below hb10).more hb10.size); have Sa_10 := Lib.hid ((Sa_9.out.below hb10).more hb10.size); have Sb_10 := Lib.hid ((Sb_9.out.below hb10).more hb10.size); have Sq_10 := Lib.hid ((Sq_9.out.below hb10).more hb10.size); have Sr_10 := Lib.hid ((Sr_9.out.below hb10).more hb10.size); have Sd_10 := Lib.hid ((Sd_9.out.below hb10).more hb10.size); have u0_10 := (hb10.cell (p := ⟨w.heap.size, 0, none⟩) ltu_9).trans u0_9; have u1_10 := (hb10.cell (p := ⟨w.heap.size, 1, none⟩) ltu_9).trans u1_9; have ltu_10 := Nat.lt_of_lt_of_le ltu_9 hb10.size; have v0_10 := (hb10.cell (p := ⟨w3.heap.size, 0, none⟩) ltv_9).trans v0_9; have v1_10 := (hb10.cell (p := ⟨w3.heap.size, 1, none⟩) ltv_9).trans v1_9; have ltv_10 := Nat.lt_of_lt_of_le ltv_9 hb10.size; have HB10 := Lib.hid (HB9.out.trans (hb10.mono HB9.out.size)); have Sy_10 := Lib.hid (Sees.of_own ho10); clear ho10; clear hb10)
        | (go_at_call 16; (with_reducible refine (toItems_any A c l w8 Sx_8.out (by omega)).mono ?_); rintro e w9 ⟨A9, c9, rfl, ho9, hb9⟩; have Sx_9 := Lib.hid ((Sx_8.out.below hb9).more hb9.size); have Sa_9 := Lib.hid ((Sa_8.out.below hb9).more hb9.size); have Sb_9 := Lib.hid ((Sb_8.out.below hb9).more hb9.size); have Sq_9 := Lib.hid ((Sq_8.out.below hb9).more hb9.size); have Sr_9 := Lib.hid ((Sr_8.out.below hb9).more hb9.size); have u0_9 := (hb9.cell (p := ⟨w.heap.size, 0, none⟩) ltu_8).trans u0_8; have u1_9 := (hb9.cell (p := ⟨w.heap.size, 1, none⟩) ltu_8).trans u1_8; have ltu_9 := Nat.lt_of_lt_of_le ltu_8 hb9.size; have v0_9 := (hb9.cell (p := ⟨w3.heap.size, 0, none⟩) ltv_8).trans v0_8; have v1_9 := (hb9.cell (p := ⟨w3.heap.size, 1, none⟩) ltv_8).trans v1_8; have ltv_9 := Nat.lt_of_lt_of_le ltv_8 hb9.size; have HB9 := Lib.hid (HB8.out.trans (hb9.mono HB8.out.size)); have Sd_9 := Lib.hid (Sees.of_own ho9); clear ho9; clear hb9)
        | (go_at_call 24; (with_reducible refine (calls_val (v' := .bool true) (quiet_below (ascendingKeys_any A7 c7 (popsF klt (0, 0) (pushF klt l (k, t)).length (pushF klt l (k, t))) w7.drew _ Sr_7d.out (by simp only [pushF_length, popsF_length]; omega))) (by rw [pops_up _ (pushF_hp l (k, t) hp)])).mono ?_); rintro e w8 ⟨rfl, hb8⟩; have Sx_8 := Lib.hid ((Sx_7d.out.below hb8).more hb8.size); have Sa_8 := Lib.hid ((Sa_7d.out.below hb8).more hb8.size); have Sb_8 := Lib.hid ((Sb_7d.out.below hb8).more hb8.size); have Sq_8 := Lib.hid ((Sq_7d.out.below hb8).more hb8.size); have Sr_8 := Lib.hid ((Sr_7d.out.below hb8).more hb8.size); have u0_8 := (hb8.cell (p := ⟨w.heap.size, 0, none⟩) ltu_7).trans u0_7; have u1_8 := (hb8.cell (p := ⟨w.heap.size, 1, none⟩) ltu_7).trans u1_7; have ltu_8 := Nat.lt_of_lt_of_le ltu_7 hb8.size; have v0_8 := (hb8.cell (p := ⟨w3.heap.size, 0, none⟩) ltv_7).trans v0_7; have v1_8 := (hb8.cell (p := ⟨w3.heap.size, 1, none⟩) ltv_7).trans v1_7; have ltv_8 := Nat.lt_of_lt_of_le ltv_7 hb8.size; have HB8 := Lib.hid (HB7d.out.trans (hb8.mono HB7d.out.size)); clear hb8))
    go_wp2
    go_ret
    exact ⟨rfl, HB11.out⟩
  · have HB0 := Lib.hid (Below.refl w.heap.size w)
    go_enter Try.func9, Try.ntmps9
    obtain ⟨Ly, hLy⟩ : ∃ Ly : List (Int × Int), l ++ [(k, t)] = Ly := ⟨_, rfl⟩
    have HLy := Lib.hid hLy
    clear hLy
    go_wp2_with fail
    obtain ⟨W1, hW1⟩ : ∃ W : World, W = (w.alloc (.cells #[.int .i64 k, .int .i64 t] 30)) := ⟨_, rfl⟩
    rw [← hW1]
    have hb1 : Below w.heap.size w W1 := by rw [hW1]; exact ((Below.refl _ _).alloc (Nat.le_refl _) _)
    have hku1 : Blk W1 (w.heap.size) 30 #[.int .i64 k, .int .i64 t] := by rw [hW1]; exact Blk.new _ _ _
    have Sx_1 := Lib.hid ((Sx.out.below hb1).more hb1.size)
    have HB1 := Lib.hid (HB0.out.trans (hb1.mono HB0.out.size))
    have u0_1 : W1.cell? ⟨w.heap.size, 0, none⟩ = some (.int .i64 k) := hku1.cell 0
    have u1_1 : W1.cell? ⟨w.heap.size, 1, none⟩ = some (.int .i64 t) := hku1.cell 1
    have ltu_1 : w.heap.size < W1.heap.size := hku1.lt
    clear hku1
    clear hW1 hb1
    go_wp2_with fail
    (with_reducible refine (toItems_any A c l W1 Sx_1.out (by omega)).mono ?_)
    rintro e w2 ⟨A2, c2, rfl, ho2, hb2⟩
    have Sx_2 := Lib.hid ((Sx_1.out.below hb2).more hb2.size)
    have u0_2 := (hb2.cell (p := ⟨w.heap.size, 0, none⟩) ltu_1).trans u0_1
    have u1_2 := (hb2.cell (p := ⟨w.heap.size, 1, none⟩) ltu_1).trans u1_1
    have ltu_2 := Nat.lt_of_lt_of_le ltu_1 hb2.size
    have HB2 := Lib.hid (HB1.out.trans (hb2.mono HB1.out.size))
    have Sa_2 := Lib.hid (Sees.of_own ho2)
    clear ho2
    clear hb2
    go_wp2_with fail
    (with_reducible refine (calls_val (v' := .bool false) (quiet_below (heapOrdered_any A2 c2 (l) w2 _ Sa_2.out (by omega))) (by rw [hoB_false hp])).mono ?_)
    rintro e w3 ⟨rfl, hb3⟩
    have Sx_3 := Lib.hid ((Sx_2.out.below hb3).more hb3.size)
    have Sa_3 := Lib.hid ((Sa_2.out.below hb3).more hb3.size)
    have u0_3 := (hb3.cell (p := ⟨w.heap.size, 0, none⟩) ltu_2).trans u0_2
    have u1_3 := (hb3.cell (p := ⟨w.heap.size, 1, none⟩) ltu_2).trans u1_2
    have ltu_3 := Nat.lt_of_lt_of_le ltu_2 hb3.size
    have HB3 := Lib.hid (HB2.out.trans (hb3.mono HB2.out.size))
    clear hb3
    go_wp2
    go_ret
    exact ⟨rfl, HB3.out⟩

set_option maxRecDepth 100000 in
theorem fnPushPops_contract (H : Type) (enc : TypeId × Value → H) (W : World) (base : Nat) (args : Array Value) (ds gs : List (DataW H)) (before : List MemPlace)
    (hval : ∀ (j : Nat) t v, Try.f9.params[j]? = some t → args[j]? = some v → Value.okWide Try.prog W .any base t v)
    (hW : DataW.Whole enc Try.prog Try.f9.params.toList Rows.fnPushPopsSpec.vars false W args.toList ds gs before)
    (hsz : (DataW.weightsEach Try.prog (Try.f9.params.toList ++ Rows.fnPushPopsSpec.plain.varTypes Try.prog) (ds ++ gs)).all (· ≤ reachBytes) = true) :
    Calls Try.prog 9 args W fun e W' => ∃ v, e = .returned v ∧ Rows.fnPushPopsSpec.post enc Try.prog Try.f9 false true false false W args v W' := by
  have hW' := hW
  obtain ⟨p, q, hA0, hV, rfl, hfz, hnd⟩ := hW
  have hA : DataW.TrodAll enc Try.prog W 0 (fun _ => true) true Try.f9.params.toList args.toList ds p := hA0
  rw [Try.params9] at hA hval hsz
  obtain ⟨v0, vs0, d0, ds0, p0, q0, hargs, rfl, rfl, h0, r0⟩ := trodAll_cons hA
  obtain ⟨v1, vs1, d1, ds1, p1, q1, rfl, rfl, rfl, h1, r1⟩ := trodAll_cons r0
  obtain ⟨rfl, rfl, rfl⟩ := trodAll_nil r1
  obtain rfl : args = #[v0, v1] := by cases args; simp_all
  obtain ⟨rfl, rfl⟩ := trodVars_none hV
  have k0 := h0
  have lt0 : ∀ x ∈ p0, x.block < W.heap.size := by obtain ⟨m, hm⟩ := k0; exact DataW.trod_lt m _ _ _ hm
  have k1 := h1
  have lt1 : ∀ x ∈ p1, x.block < W.heap.size := by obtain ⟨m, hm⟩ := k1; exact DataW.trod_lt m _ _ _ hm
  obtain ⟨a0, len0, c0, rfl⟩ := okWide_slice Try.underlying22 (hval 0 22 v0 rfl rfl)
  obtain ⟨l0, rfl, hs0, hd0⟩ := open_items Try.underlying22 Try.underlying30 (by kernel_rfl) rfl rfl (by kernel_rfl) (by kernel_rfl) Try.underlying3 Try.underlying3 h0
  have hn0 := items_reach hsz (j := 0) rfl rfl Try.underlying22 (by kernel_rfl) hd0
  obtain ⟨x1, y1, rfl, hd1⟩ := open_item Try.underlying30 (by kernel_rfl) (by kernel_rfl) Try.underlying3 Try.underlying3 (hval 1 30 v1 rfl rfl) h1
  clear hA0 hsz
  refine (fnPushPops_any a0 c0 l0 x1 y1 W hs0 hn0).mono fun e W' ⟨he, bel⟩ => ?_
  subst he
  exact ⟨_, rfl, _, _, _, [], _, [], hW', trodAll_mk1 (shut_bool Try.underlying4 _), (trodAll_cons_mk (Below.trod Try.laidOut (by kernel_rfl) (of_decide_eq_true (by kernel_rfl)) k0 bel lt0) (trodAll_cons_mk (Below.trod Try.laidOut (by kernel_rfl) (of_decide_eq_true (by kernel_rfl)) k1 bel lt1) trodAll_mk0)), rfl, bel.frame _, fun h => by cases h⟩

set_option maxRecDepth 100000 in
theorem fnPushPops_lifted (os : Os) (started : os.Started) (H : Type) (enc : TypeId × Value → H) :
    ReturnsInHanded {} Try.checked os 9 .any (Rows.fnPushPopsSpec.pre6 enc Try.prog Try.f9 Rows.fnPushPopsRow.domain false) (Rows.fnPushPopsSpec.post enc Try.prog Try.f9 false true false false) := by
  refine returnsInHanded_of_change_sized (C := Try.checked) Try.own started (by kernel_rfl) Try.func9
    (ChangeSpec.witness6 (enc := enc) (C := Try.checked) false ⟨#[], #[.slice none 0 0, .agg #[.int .i64 0, .int .i64 0]], []⟩ 8 (by kernel_rfl) (by kernel_rfl) (by kernel_rfl) (by kernel_rfl)) ?_
  intro W base args ds gs before hval hW _ hsz _
  exact fnPushPops_contract H enc W base args ds gs before hval hW hsz

theorem fnPushPops_holds : Rows.FnPushPopsSaid :=
  OpenClaim.holds_of_wide 9 Try.f9 rfl rfl rfl rfl rfl rfl rfl ⟨rfl, rfl, rfl, rfl, rfl⟩ rfl rfl rfl rfl rfl (by kernel_rfl) Try.func9 (by kernel_rfl)
    (of_decide_eq_true (by kernel_rfl)) (by unfold Func.isWrapper; first | (rw [if_pos (by decide +kernel)]; kernel_rfl) | (rw [if_neg (by decide +kernel)]; exact ⟨rfl, rfl⟩))
    (fun os started H enc _ => fnPushPops_lifted os started H enc)
#print axioms fnPushPops_holds
end Go.Proofs.Ytdccdihkkfhadaa
