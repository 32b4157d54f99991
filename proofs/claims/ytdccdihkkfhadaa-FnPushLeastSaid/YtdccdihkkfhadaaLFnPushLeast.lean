/- For every list of items and every item, FnPushLeast returns true: a pushed element that is less than all others is the first one, and is popped next. No condition. -/
import Derived.Test.YtdccdihkkfhadaaItemLaws
import Derived.Test.YtdccdihkkfhadaaItemPush
import Derived.Test.YtdccdihkkfhadaaQAlone
import Derived.Test.YtdccdihkkfhadaaArgs
import Derived.Deep.RegionHeld3
namespace Go.Proofs.Ytdccdihkkfhadaa
set_option linter.unusedVariables false
open Go.RowKit Go.ChangeShapes Go.WideShapes Go.ChangeAt

set_option maxHeartbeats 1000000 in
theorem fnPushLeast_any (A : Option Addr) (c : Nat) (l : List (Int × Int)) (k t : Int) (w : World) (hs : Sees w w.heap.size 2 A l.length (ics l)) (hn : l.length * 16 ≤ 140737488351232) :
    Calls Try.prog 6 #[.slice A l.length c, .agg #[.int .i64 k, .int .i64 t]] w fun e w' => e = .returned (.bool true) ∧ Below w.heap.size w w' := by
  have Sx := Lib.hid hs
  clear hs
  by_cases hp : HeapOrd l
  · by_cases hq : ∀ y ∈ l, k < y.1
    · have hroot := push_root l (k, t) hp hq
      have hlen1 := pushF_length klt l (k, t)
      have hpos : 0 < (pushF klt l (k, t)).length := by omega
      have hz : (((pushF klt l (k, t)).length : Int) == 0) = false := by rw [beq_eq_false_iff_ne]; omega
      have HR := Lib.hid hroot
      have HL1 := Lib.hid hlen1
      clear hlen1 hroot
      have HTOP := Lib.hid (show popTop klt (0, 0) (pushF klt l (k, t)) = (k, t) by rw [popTop_first klt (0, 0) _ hpos]; exact HR.out)
      have HB0 := Lib.hid (Below.refl w.heap.size w)
      go_enter Try.func6, Try.ntmps6
      go_wp2_with fail
      obtain ⟨W1, hW1⟩ : ∃ W : World, W = (w.alloc (.cells #[.int .i64 k, .int .i64 t] 30)) := ⟨_, rfl⟩
      rw [← hW1]
      have hb1 : Below w.heap.size w W1 := by rw [hW1]; exact ((Below.refl _ _).alloc (Nat.le_refl _) _)
      have hku1 : Blk W1 (w.heap.size) 30 #[.int .i64 k, .int .i64 t] := by rw [hW1]; exact Blk.new _ _ _
      have Sx_1 := Lib.hid ((Sx.out.below hb1).more hb1.size)
      have HB1 := Lib.hid (HB0.out.trans (hb1.mono HB0.out.size))
      have u0_1 : W1.cell? ⟨w.heap.size, 0, none⟩ = some (.int .i64 k) := hku1.cell 0
      have u1_1 : W1.cell? ⟨w.heap.size, 1, none⟩ = some (.int .i64 t) := hku1.cell 1
      have ltu_1 : w.heap.size < W1.heap.size := hku1.lt
      clear hku1
      clear hW1 hb1
      go_wp2_with fail
      (with_reducible refine (toItems_any A c l W1 Sx_1.out (by omega)).mono ?_)
      rintro e w2 ⟨A2, c2, rfl, ho2, hb2⟩
      have Sx_2 := Lib.hid ((Sx_1.out.below hb2).more hb2.size)
      have u0_2 := (hb2.cell (p := ⟨w.heap.size, 0, none⟩) ltu_1).trans u0_1
      have u1_2 := (hb2.cell (p := ⟨w.heap.size, 1, none⟩) ltu_1).trans u1_1
      have ltu_2 := Nat.lt_of_lt_of_le ltu_1 hb2.size
      have HB2 := Lib.hid (HB1.out.trans (hb2.mono HB1.out.size))
      have Sa_2 := Lib.hid (Sees.of_own ho2)
      clear ho2
      clear hb2
      go_wp2_with fail
      (with_reducible refine (calls_val (v' := .bool true) (quiet_below (heapOrdered_any A2 c2 (l) w2 _ Sa_2.out (by omega))) (by rw [(hoB_iff _).2 hp])).mono ?_)
      rintro e w3 ⟨rfl, hb3⟩
      have Sx_3 := Lib.hid ((Sx_2.out.below hb3).more hb3.size)
      have Sa_3 := Lib.hid ((Sa_2.out.below hb3).more hb3.size)
      have u0_3 := (hb3.cell (p := ⟨w.heap.size, 0, none⟩) ltu_2).trans u0_2
      have u1_3 := (hb3.cell (p := ⟨w.heap.size, 1, none⟩) ltu_2).trans u1_2
      have ltu_3 := Nat.lt_of_lt_of_le ltu_2 hb3.size
      have HB3 := Lib.hid (HB2.out.trans (hb3.mono HB2.out.size))
      clear hb3
      go_wp2_with fail
      (with_reducible refine (calls_val (v' := .bool true) (qAlone_any A c l k w3 Sx_3.out (by omega)) (by rw [decide_eq_true hq])).mono ?_)
      rintro e w4 ⟨rfl, hb4⟩
      have Sx_4 := Lib.hid ((Sx_3.out.below hb4).more hb4.size)
      have Sa_4 := Lib.hid ((Sa_3.out.below hb4).more hb4.size)
      have u0_4 := (hb4.cell (p := ⟨w.heap.size, 0, none⟩) ltu_3).trans u0_3
      have u1_4 := (hb4.cell (p := ⟨w.heap.size, 1, none⟩) ltu_3).trans u1_3
      have ltu_4 := Nat.lt_of_lt_of_le ltu_3 hb4.size
      have HB4 := Lib.hid (HB3.out.trans (hb4.mono HB3.out.size))
      clear hb4
      go_wp2_with fail
      obtain ⟨W5, hW5⟩ : ∃ W : World, W = (w4.alloc (.cells #[.int .i64 k, .int .i64 t] 32)) := ⟨_, rfl⟩
      rw [← hW5]
      have hb5 : Below w4.heap.size w4 W5 := by rw [hW5]; exact ((Below.refl _ _).alloc (Nat.le_refl _) _)
      have hkv5 : Blk W5 (w4.heap.size) 32 #[.int .i64 k, .int .i64 t] := by rw [hW5]; exact Blk.new _ _ _
      have Sx_5 := Lib.hid ((Sx_4.out.below hb5).more hb5.size)
      have Sa_5 := Lib.hid ((Sa_4.out.below hb5).more hb5.size)
      have u0_5 := (hb5.cell (p := ⟨w.heap.size, 0, none⟩) ltu_4).trans u0_4
      have u1_5 := (hb5.cell (p := ⟨w.heap.size, 1, none⟩) ltu_4).trans u1_4
      have ltu_5 := Nat.lt_of_lt_of_le ltu_4 hb5.size
      have HB5 := Lib.hid (HB4.out.trans (hb5.mono HB4.out.size))
      have v0_5 : W5.cell? ⟨w4.heap.size, 0, none⟩ = some (.int .i64 k) := hkv5.cell 0
      have v1_5 : W5.cell? ⟨w4.heap.size, 1, none⟩ = some (.int .i64 t) := hkv5.cell 1
      have ltv_5 : w4.heap.size < W5.heap.size := hkv5.lt
      clear hkv5
      clear hW5 hb5
      have Sx_5d := Lib.hid (Sees.drewT Sx_5.out)
      have Sa_5d := Lib.hid (Sees.drewT Sa_5.out)
      have HB5d := Lib.hid HB5.out.drew
      go_region_held3 (fun w' => w'.cell? ⟨w.heap.size, 0, none⟩ = some (.int .i64 k) ∧ w'.cell? ⟨w.heap.size, 1, none⟩ = some (.int .i64 t) ∧ w'.cell? ⟨w4.heap.size, 0, none⟩ = some (.int .i64 k) ∧ w'.cell? ⟨w4.heap.size, 1, none⟩ = some (.int .i64 t)) (first | go_keep | (exact ⟨by assumption, by assumption, by assumption, by assumption⟩))
        (first
          | (go_at_call 20; (with_reducible refine (heapPush_any A6 c6 (l) k t w6 Sb_6.out (by omega)).mono ?_); rintro e w7 ⟨A7, c7, rfl, ho7, hb7⟩; have Sx_7 := Lib.hid ((Sx_6.out.below hb7).more hb7.size); have Sa_7 := Lib.hid ((Sa_6.out.below hb7).more hb7.size); have Sb_7 := Lib.hid ((Sb_6.out.below hb7).more hb7.size); have u0_7 := (hb7.cell (p := ⟨w.heap.size, 0, none⟩) ltu_6).trans u0_6; have u1_7 := (hb7.cell (p := ⟨w.heap.size, 1, none⟩) ltu_6).trans u1_6; have ltu_7 := Nat.lt_of_lt_of_le ltu_6 hb7.size; have v0_7 := (hb7.cell (p := ⟨w4.heap.size, 0, none⟩) ltv_6).trans v0_6; have v1_7 := (hb7.cell (p := ⟨w4.heap.size, 1, none⟩) ltv_6).trans v1_6; have ltv_7 := Nat.lt_of_lt_of_le ltv_6 hb7.size; have HB7 := Lib.hid (HB6.out.trans (hb7.mono HB6.out.size)); have Sr_7 := Lib.hid (Sees.of_own ho7); clear ho7; clear hb7)
          | (go_at_call 16; (with_reducible refine (toItems_any A c l W5.drew Sx_5d.out (by omega)).mono ?_); rintro e w6 ⟨A6, c6, rfl, ho6, hb6⟩; have Sx_6 := Lib.hid ((Sx_5d.out.below hb6).more hb6.size); have Sa_6 := Lib.hid ((Sa_5d.out.below hb6).more hb6.size); have u0_6 := (hb6.cell (p := ⟨w.heap.size, 0, none⟩) ltu_5).trans u0_5; have u1_6 := (hb6.cell (p := ⟨w.heap.size, 1, none⟩) ltu_5).trans u1_5; have ltu_6 := Nat.lt_of_lt_of_le ltu_5 hb6.size; have v0_6 := (hb6.cell (p := ⟨w4.heap.size, 0, none⟩) ltv_5).trans v0_5; have v1_6 := (hb6.cell (p := ⟨w4.heap.size, 1, none⟩) ltv_5).trans v1_5; have ltv_6 := Nat.lt_of_lt_of_le ltv_5 hb6.size; have HB6 := Lib.hid (HB5d.out.trans (hb6.mono HB5d.out.size)); have Sb_6 := Lib.hid (Sees.of_own ho6); clear ho6; clear hb6))
      obtain ⟨bb, off, hA, hbw, hc⟩ := Sr_7.out.2 hpos
      rw [hA]
      have x0 := hc 0 _ (ics_key _ 0 hpos)
      have x1 := hc 1 _ (ics_tag _ 0 hpos)
      clear hc
      have HR0 := HR.out
      rw [at_get _ hpos] at HR0
      rw [HR0] at x0 x1
      clear HR0
      rw [Nat.add_zero] at x0
      dsimp only at x0 x1
      have hpi : (0 : Int) < ((pushF klt l (k, t)).length : Int) := by omega
      have SR := Lib.hid (show Sees w7 w7.heap.size 2 (some ⟨bb, off, none⟩) (pushF klt l (k, t)).length (ics (pushF klt l (k, t))) by rw [← hA]; exact Sr_7.out)
      clear hA
      go_wp2_with fail
      go_quiet (fail)
      have hbq : Below w7.heap.size w7 (w7.drewN nq) := below_drewN (Below.refl _ _) nq
      have Sr_8 := Lib.hid ((SR.out.below hbq).more hbq.size)
      have u0_8 := (hbq.cell (p := ⟨w.heap.size, 0, none⟩) ltu_7).trans u0_7
      have u1_8 := (hbq.cell (p := ⟨w.heap.size, 1, none⟩) ltu_7).trans u1_7
      have ltu_8 := Nat.lt_of_lt_of_le ltu_7 hbq.size
      have v0_8 := (hbq.cell (p := ⟨w4.heap.size, 0, none⟩) ltv_7).trans v0_7
      have v1_8 := (hbq.cell (p := ⟨w4.heap.size, 1, none⟩) ltv_7).trans v1_7
      have ltv_8 := Nat.lt_of_lt_of_le ltv_7 hbq.size
      have HB8 := Lib.hid (HB7.out.trans (hbq.mono HB7.out.size))
      clear hbq
      go_wp2_with fail
      (with_reducible refine (newand_eq (heapPop_any (some ⟨bb, off, none⟩) c7 (pushF klt l (k, t)) (w7.drewN nq) Sr_8.out hpos (by rw [HL1.out]; omega)) HTOP.out).mono ?_)
      rintro e w9 ⟨A9, c9, rfl, ho9, hb9⟩
      have Sr_9 := Lib.hid ((Sr_8.out.below hb9).more hb9.size)
      have u0_9 := (hb9.cell (p := ⟨w.heap.size, 0, none⟩) ltu_8).trans u0_8
      have u1_9 := (hb9.cell (p := ⟨w.heap.size, 1, none⟩) ltu_8).trans u1_8
      have ltu_9 := Nat.lt_of_lt_of_le ltu_8 hb9.size
      have v0_9 := (hb9.cell (p := ⟨w4.heap.size, 0, none⟩) ltv_8).trans v0_8
      have v1_9 := (hb9.cell (p := ⟨w4.heap.size, 1, none⟩) ltv_8).trans v1_8
      have ltv_9 := Nat.lt_of_lt_of_le ltv_8 hb9.size
      have HB9 := Lib.hid (HB8.out.trans (hb9.mono HB8.out.size))
      have Sy_9 := Lib.hid (Sees.of_own ho9)
      clear ho9
      clear hb9
      go_wp2
      go_ret
      exact ⟨rfl, HB9.out.alloc HB9.out.size _⟩
    · have HB0 := Lib.hid (Below.refl w.heap.size w)
      go_enter Try.func6, Try.ntmps6
      go_wp2_with fail
      obtain ⟨W1, hW1⟩ : ∃ W : World, W = (w.alloc (.cells #[.int .i64 k, .int .i64 t] 30)) := ⟨_, rfl⟩
      rw [← hW1]
      have hb1 : Below w.heap.size w W1 := by rw [hW1]; exact ((Below.refl _ _).alloc (Nat.le_refl _) _)
      have hku1 : Blk W1 (w.heap.size) 30 #[.int .i64 k, .int .i64 t] := by rw [hW1]; exact Blk.new _ _ _
      have Sx_1 := Lib.hid ((Sx.out.below hb1).more hb1.size)
      have HB1 := Lib.hid (HB0.out.trans (hb1.mono HB0.out.size))
      have u0_1 : W1.cell? ⟨w.heap.size, 0, none⟩ = some (.int .i64 k) := hku1.cell 0
      have u1_1 : W1.cell? ⟨w.heap.size, 1, none⟩ = some (.int .i64 t) := hku1.cell 1
      have ltu_1 : w.heap.size < W1.heap.size := hku1.lt
      clear hku1
      clear hW1 hb1
      go_wp2_with fail
      (with_reducible refine (toItems_any A c l W1 Sx_1.out (by omega)).mono ?_)
      rintro e w2 ⟨A2, c2, rfl, ho2, hb2⟩
      have Sx_2 := Lib.hid ((Sx_1.out.below hb2).more hb2.size)
      have u0_2 := (hb2.cell (p := ⟨w.heap.size, 0, none⟩) ltu_1).trans u0_1
      have u1_2 := (hb2.cell (p := ⟨w.heap.size, 1, none⟩) ltu_1).trans u1_1
      have ltu_2 := Nat.lt_of_lt_of_le ltu_1 hb2.size
      have HB2 := Lib.hid (HB1.out.trans (hb2.mono HB1.out.size))
      have Sa_2 := Lib.hid (Sees.of_own ho2)
      clear ho2
      clear hb2
      go_wp2_with fail
      (with_reducible refine (calls_val (v' := .bool true) (quiet_below (heapOrdered_any A2 c2 (l) w2 _ Sa_2.out (by omega))) (by rw [(hoB_iff _).2 hp])).mono ?_)
      rintro e w3 ⟨rfl, hb3⟩
      have Sx_3 := Lib.hid ((Sx_2.out.below hb3).more hb3.size)
      have Sa_3 := Lib.hid ((Sa_2.out.below hb3).more hb3.size)
      have u0_3 := (hb3.cell (p := ⟨w.heap.size, 0, none⟩) ltu_2).trans u0_2
      have u1_3 := (hb3.cell (p := ⟨w.heap.size, 1, none⟩) ltu_2).trans u1_2
      have ltu_3 := Nat.lt_of_lt_of_le ltu_2 hb3.size
      have HB3 := Lib.hid (HB2.out.trans (hb3.mono HB2.out.size))
      clear hb3
      go_wp2_with fail
      (with_reducible refine (calls_val (v' := .bool false) (qAlone_any A c l k w3 Sx_3.out (by omega)) (by rw [decide_eq_false hq])).mono ?_)
      rintro e w4 ⟨rfl, hb4⟩
      have Sx_4 := Lib.hid ((Sx_3.out.below hb4).more hb4.size)
      have Sa_4 := Lib.hid ((Sa_3.out.below hb4).more hb4.size)
      have u0_4 := (hb4.cell (p := ⟨w.heap.size, 0, none⟩) ltu_3).trans u0_3
      have u1_4 := (hb4.cell (p := ⟨w.heap.size, 1, none⟩) ltu_3).trans u1_3
      have ltu_4 := Nat.lt_of_lt_of_le ltu_3 hb4.size
      have HB4 := Lib.hid (HB3.out.trans (hb4.mono HB3.out.size))
      clear hb4
      go_wp2
      go_ret
      exact ⟨rfl, HB4.out⟩
  · have HB0 := Lib.hid (Below.refl w.heap.size w)
    go_enter Try.func6, Try.ntmps6
    go_wp2_with fail
    obtain ⟨W1, hW1⟩ : ∃ W : World, W = (w.alloc (.cells #[.int .i64 k, .int .i64 t] 30)) := ⟨_, rfl⟩
    rw [← hW1]
    have hb1 : Below w.heap.size w W1 := by rw [hW1]; exact ((Below.refl _ _).alloc (Nat.le_refl _) _)
    have hku1 : Blk W1 (w.heap.size) 30 #[.int .i64 k, .int .i64 t] := by rw [hW1]; exact Blk.new _ _ _
    have Sx_1 := Lib.hid ((Sx.out.below hb1).more hb1.size)
    have HB1 := Lib.hid (HB0.out.trans (hb1.mono HB0.out.size))
    have u0_1 : W1.cell? ⟨w.heap.size, 0, none⟩ = some (.int .i64 k) := hku1.cell 0
    have u1_1 : W1.cell? ⟨w.heap.size, 1, none⟩ = some (.int .i64 t) := hku1.cell 1
    have ltu_1 : w.heap.size < W1.heap.size := hku1.lt
    clear hku1
    clear hW1 hb1
    go_wp2_with fail
    (with_reducible refine (toItems_any A c l W1 Sx_1.out (by omega)).mono ?_)
    rintro e w2 ⟨A2, c2, rfl, ho2, hb2⟩
    have Sx_2 := Lib.hid ((Sx_1.out.below hb2).more hb2.size)
    have u0_2 := (hb2.cell (p := ⟨w.heap.size, 0, none⟩) ltu_1).trans u0_1
    have u1_2 := (hb2.cell (p := ⟨w.heap.size, 1, none⟩) ltu_1).trans u1_1
    have ltu_2 := Nat.lt_of_lt_of_le ltu_1 hb2.size
    have HB2 := Lib.hid (HB1.out.trans (hb2.mono HB1.out.size))
    have Sa_2 := Lib.hid (Sees.of_own ho2)
    clear ho2
    clear hb2
    go_wp2_with fail
    (with_reducible refine (calls_val (v' := .bool false) (quiet_below (heapOrdered_any A2 c2 (l) w2 _ Sa_2.out (by omega))) (by rw [hoB_false hp])).mono ?_)
    rintro e w3 ⟨rfl, hb3⟩
    have Sx_3 := Lib.hid ((Sx_2.out.below hb3).more hb3.size)
    have Sa_3 := Lib.hid ((Sa_2.out.below hb3).more hb3.size)
    have u0_3 := (hb3.cell (p := ⟨w.heap.size, 0, none⟩) ltu_2).trans u0_2
    have u1_3 := (hb3.cell (p := ⟨w.heap.size, 1, none⟩) ltu_2).trans u1_2
    have ltu_3 := Nat.lt_of_lt_of_le ltu_2 hb3.size
    have HB3 := Lib.hid (HB2.out.trans (hb3.mono HB2.out.size))
    clear hb3
    go_wp2
    go_ret
    exact ⟨rfl, HB3.out⟩

set_option maxRecDepth 100000 in
theorem fnPushLeast_contract (H : Type) (enc : TypeId × Value → H) (W : World) (base : Nat) (args : Array Value) (ds gs : List (DataW H)) (before : List MemPlace)
    (hval : ∀ (j : Nat) t v, Try.f6.params[j]? = some t → args[j]? = some v → Value.okWide Try.prog W .any base t v)
    (hW : DataW.Whole enc Try.prog Try.f6.params.toList Rows.fnPushLeastSpec.vars false W args.toList ds gs before)
    (hsz : (DataW.weightsEach Try.prog (Try.f6.params.toList ++ Rows.fnPushLeastSpec.plain.varTypes Try.prog) (ds ++ gs)).all (· ≤ reachBytes) = true) :
    Calls Try.prog 6 args W fun e W' => ∃ v, e = .returned v ∧ Rows.fnPushLeastSpec.post enc Try.prog Try.f6 false true false false W args v W' := by
  have hW' := hW
  obtain ⟨p, q, hA0, hV, rfl, hfz, hnd⟩ := hW
  have hA : DataW.TrodAll enc Try.prog W 0 (fun _ => true) true Try.f6.params.toList args.toList ds p := hA0
  rw [Try.params6] at hA hval hsz
  obtain ⟨v0, vs0, d0, ds0, p0, q0, hargs, rfl, rfl, h0, r0⟩ := trodAll_cons hA
  obtain ⟨v1, vs1, d1, ds1, p1, q1, rfl, rfl, rfl, h1, r1⟩ := trodAll_cons r0
  obtain ⟨rfl, rfl, rfl⟩ := trodAll_nil r1
  obtain rfl : args = #[v0, v1] := by cases args; simp_all
  obtain ⟨rfl, rfl⟩ := trodVars_none hV
  have k0 := h0
  have lt0 : ∀ x ∈ p0, x.block < W.heap.size := by obtain ⟨m, hm⟩ := k0; exact DataW.trod_lt m _ _ _ hm
  have k1 := h1
  have lt1 : ∀ x ∈ p1, x.block < W.heap.size := by obtain ⟨m, hm⟩ := k1; exact DataW.trod_lt m _ _ _ hm
  obtain ⟨a0, len0, c0, rfl⟩ := okWide_slice Try.underlying22 (hval 0 22 v0 rfl rfl)
  obtain ⟨l0, rfl, hs0, hd0⟩ := open_items Try.underlying22 Try.underlying30 (by kernel_rfl) rfl rfl (by kernel_rfl) (by kernel_rfl) Try.underlying3 Try.underlying3 h0
  have hn0 := items_reach hsz (j := 0) rfl rfl Try.underlying22 (by kernel_rfl) hd0
  obtain ⟨x1, y1, rfl, hd1⟩ := open_item Try.underlying30 (by kernel_rfl) (by kernel_rfl) Try.underlying3 Try.underlying3 (hval 1 30 v1 rfl rfl) h1
  clear hA0 hsz
  refine (fnPushLeast_any a0 c0 l0 x1 y1 W hs0 hn0).mono fun e W' ⟨he, bel⟩ => ?_
  subst he
  exact ⟨_, rfl, _, _, _, [], _, [], hW', trodAll_mk1 (shut_bool Try.underlying4 _), (trodAll_cons_mk (Below.trod Try.laidOut (by kernel_rfl) (of_decide_eq_true (by kernel_rfl)) k0 bel lt0) (trodAll_cons_mk (Below.trod Try.laidOut (by kernel_rfl) (of_decide_eq_true (by kernel_rfl)) k1 bel lt1) trodAll_mk0)), rfl, bel.frame _, fun h => by cases h⟩

set_option maxRecDepth 100000 in
theorem fnPushLeast_lifted (os : Os) (started : os.Started) (H : Type) (enc : TypeId × Value → H) :
    ReturnsInHanded {} Try.checked os 6 .any (Rows.fnPushLeastSpec.pre6 enc Try.prog Try.f6 Rows.fnPushLeastRow.domain false) (Rows.fnPushLeastSpec.post enc Try.prog Try.f6 false true false false) := by
  refine returnsInHanded_of_change_sized (C := Try.checked) Try.own started (by kernel_rfl) Try.func6
    (ChangeSpec.witness6 (enc := enc) (C := Try.checked) false ⟨#[], #[.slice none 0 0, .agg #[.int .i64 0, .int .i64 0]], []⟩ 8 (by kernel_rfl) (by kernel_rfl) (by kernel_rfl) (by kernel_rfl)) ?_
  intro W base args ds gs before hval hW _ hsz _
  exact fnPushLeast_contract H enc W base args ds gs before hval hW hsz

theorem fnPushLeast_holds : Rows.FnPushLeastSaid :=
  OpenClaim.holds_of_wide 6 Try.f6 rfl rfl rfl rfl rfl rfl rfl ⟨rfl, rfl, rfl, rfl, rfl⟩ rfl rfl rfl rfl rfl (by kernel_rfl) Try.func6 (by kernel_rfl)
    (of_decide_eq_true (by kernel_rfl)) (by unfold Func.isWrapper; first | (rw [if_pos (by decide +kernel)]; kernel_rfl) | (rw [if_neg (by decide +kernel)]; exact ⟨rfl, rfl⟩))
    (fun os started H enc _ => fnPushLeast_lifted os started H enc)
#print axioms fnPushLeast_holds
end Go.Proofs.Ytdccdihkkfhadaa
