/- For every list of items, FnPopCalls returns true: Pop of a list with heap order of at least one item calls the method Pop once and returns its element, no method Push, and otherwise Less and Swap with indices of the list; these calls make the list that it leaves. No condition. -/
import Derived.Test.YtejhccnhkmkchaaLawFns
import Derived.Test.YtejhccnhkmkchaaCallFns
import Derived.Test.YtejhccnhkmkchaaCallLaws
import Derived.Test.YtejhccnhkmkchaaReplay
import Derived.Test.YtejhccnhkmkchaaEqItems
import Derived.Test.YtejhccnhkmkchaaArgs
import Derived.Deep.RegionHeld3
namespace Go.Proofs.Ytejhccnhkmkchaa
set_option linter.unusedVariables false
open Go.RowKit Go.ChangeShapes Go.WideShapes Go.ChangeAt

set_option maxHeartbeats 1600000 in
theorem fnPopCalls_any (A : Option Addr) (c : Nat) (l : List (Int × Int)) (w : World) (hs : Sees w w.heap.size 2 A l.length (ics l)) (hn : l.length * 16 ≤ 140737488351232) :
    Calls Try.prog 7 #[.slice A l.length c] w fun e w' => e = .returned (.bool true) ∧ Below w.heap.size w w' := by
  have Sx := Lib.hid hs
  clear hs
  by_cases h0 : l.length = 0
  · have hz : ((l.length : Int) == 0) = true := by rw [beq_iff_eq]; omega
    clear h0
    have HB0 := Lib.hid (Below.refl w.heap.size w)
    go_enter Try.func7, Try.ntmps7
    go_wp2
    go_ret
    exact ⟨rfl, HB0.out⟩
  · have hz : ((l.length : Int) == 0) = false := by rw [beq_eq_false_iff_ne]; omega
    have hpos : 0 < l.length := by omega
    clear h0
    by_cases hp : HeapOrd l
    · have hcl : (popCalls (bitsN l.length) l).length ≤ 200 := by have := popCalls_short l hpos; have := bits_small' l.length hn; omega
      have hcl1 : 1 ≤ (popCalls (bitsN l.length) l).length := popCalls_length l hpos
      have ha3 : cntK 3 (popCalls (bitsN l.length) l) = 0 := popCalls_pushes l hpos
      have ha4 : cntK 4 (popCalls (bitsN l.length) l) = 1 := popCalls_pops l hpos
      obtain ⟨CL, hCL⟩ : ∃ x : List Cal, popCalls (bitsN l.length) l = x := ⟨_, rfl⟩
      rw [hCL] at hcl hcl1 ha3 ha4
      have HCL := Lib.hid hCL
      clear hCL
      have HA3 := Lib.hid ha3
      have HA4 := Lib.hid ha4
      clear ha3 ha4
      obtain ⟨RO, hRO⟩ : ∃ x : List (Int × Int), [popTop klt (0, 0) l] = x := ⟨_, rfl⟩
      have HRO := Lib.hid hRO
      clear hRO
      obtain ⟨⟨pk, pt⟩, hp⟩ : ∃ x : Int × Int, popTop klt (0, 0) l = x := ⟨_, rfl⟩
      have Hp := Lib.hid hp
      clear hp
      have HB0 := Lib.hid (Below.refl w.heap.size w)
      go_enter Try.func7, Try.ntmps7
      go_wp2_with fail
      (with_reducible refine (toItems_any A c l w Sx.out (by omega)).mono ?_)
      rintro e w1 ⟨A1, c1, rfl, ho1, hb1⟩
      have Sx_1 := Lib.hid ((Sx.out.below hb1).more hb1.size)
      have HB1 := Lib.hid (HB0.out.trans (hb1.mono HB0.out.size))
      have Sa_1 := Lib.hid (Sees.of_own ho1)
      clear ho1
      clear hb1
      go_wp2_with fail
      (with_reducible refine (calls_val (v' := .bool true) (quiet_below (heapOrdered_any A1 c1 (l) w1 _ Sa_1.out (by omega))) (by rw [(hoB_iff _).2 hp])).mono ?_)
      rintro e w2 ⟨rfl, hb2⟩
      have Sx_2 := Lib.hid ((Sx_1.out.below hb2).more hb2.size)
      have Sa_2 := Lib.hid ((Sa_1.out.below hb2).more hb2.size)
      have HB2 := Lib.hid (HB1.out.trans (hb2.mono HB1.out.size))
      clear hb2
      go_wp2_with fail
      (with_reducible refine (toItems_any A c l w2 Sx_2.out (by omega)).mono ?_)
      rintro e w3 ⟨A3, c3, rfl, ho3, hb3⟩
      have Sx_3 := Lib.hid ((Sx_2.out.below hb3).more hb3.size)
      have Sa_3 := Lib.hid ((Sa_2.out.below hb3).more hb3.size)
      have HB3 := Lib.hid (HB2.out.trans (hb3.mono HB2.out.size))
      have Sb_3 := Lib.hid (Sees.of_own ho3)
      clear ho3
      clear hb3
      go_wp2_with fail
      (with_reducible refine (newc_eq (popCalls_any (bitsN l.length) A3 c3 l w3 Sb_3.out (by omega) hpos (pop_fuel l hpos) (Nat.le_trans (bits_small' l.length (by omega)) (by decide))) HCL.out).mono ?_)
      rintro e w4 ⟨A4, c4, rfl, ho4, hb4⟩
      have Sx_4 := Lib.hid ((Sx_3.out.below hb4).more hb4.size)
      have Sa_4 := Lib.hid ((Sa_3.out.below hb4).more hb4.size)
      have Sb_4 := Lib.hid ((Sb_3.out.below hb4).more hb4.size)
      have HB4 := Lib.hid (HB3.out.trans (hb4.mono HB3.out.size))
      have Sq_4 := Lib.hid (Sees.of_own ho4)
      clear ho4
      clear hb4
      go_wp2_with fail
      (with_reducible refine (toItems_any A c l w4 Sx_4.out (by omega)).mono ?_)
      rintro e w5 ⟨A5, c5, rfl, ho5, hb5⟩
      have Sx_5 := Lib.hid ((Sx_4.out.below hb5).more hb5.size)
      have Sa_5 := Lib.hid ((Sa_4.out.below hb5).more hb5.size)
      have Sb_5 := Lib.hid ((Sb_4.out.below hb5).more hb5.size)
      have Sq_5 := Lib.hid ((Sq_4.out.below hb5).more hb5.size)
      have HB5 := Lib.hid (HB4.out.trans (hb5.mono HB4.out.size))
      have Sd_5 := Lib.hid (Sees.of_own ho5)
      clear ho5
      clear hb5
      go_wp2_with fail
      (with_reducible refine (replay_any A5 c5 l A4 c4 CL (popRest klt l) RO w5 Sd_5.out Sq_5.out (by rw [← HRO.out, ← HCL.out]; exact popCalls_trail l hpos) (by omega)).mono ?_)
      rintro e w6 ⟨A6h, c6h, A6o, c6o, rfl, hh6, ho6, hb6⟩
      have Sx_6 := Lib.hid ((Sx_5.out.below hb6).more hb6.size)
      have Sa_6 := Lib.hid ((Sa_5.out.below hb6).more hb6.size)
      have Sb_6 := Lib.hid ((Sb_5.out.below hb6).more hb6.size)
      have Sq_6 := Lib.hid ((Sq_5.out.below hb6).more hb6.size)
      have Sd_6 := Lib.hid ((Sd_5.out.below hb6).more hb6.size)
      have HB6 := Lib.hid (HB5.out.trans (hb6.mono HB5.out.size))
      have Sh_6 := Lib.hid (Sees.of_own hh6)
      clear hh6
      have So_6 := Lib.hid (Sees.of_own ho6)
      clear ho6
      clear hb6
      go_wp2_with fail
      (with_reducible refine (toItems_any A c l w6 Sx_6.out (by omega)).mono ?_)
      rintro e w7 ⟨A7, c7, rfl, ho7, hb7⟩
      have Sx_7 := Lib.hid ((Sx_6.out.below hb7).more hb7.size)
      have Sa_7 := Lib.hid ((Sa_6.out.below hb7).more hb7.size)
      have Sb_7 := Lib.hid ((Sb_6.out.below hb7).more hb7.size)
      have Sq_7 := Lib.hid ((Sq_6.out.below hb7).more hb7.size)
      have Sd_7 := Lib.hid ((Sd_6.out.below hb7).more hb7.size)
      have Sh_7 := Lib.hid ((Sh_6.out.below hb7).more hb7.size)
      have So_7 := Lib.hid ((So_6.out.below hb7).more hb7.size)
      have HB7 := Lib.hid (HB6.out.trans (hb7.mono HB6.out.size))
      have Sf_7 := Lib.hid (Sees.of_own ho7)
      clear ho7
      clear hb7
      go_wp2_with fail
      (with_reducible refine (newand_eq (heapPop_any A7 c7 (l) w7 Sf_7.out (hpos) (by omega)) Hp.out).mono ?_)
      rintro e w8 ⟨A8, c8, rfl, ho8, hb8⟩
      have Sx_8 := Lib.hid ((Sx_7.out.below hb8).more hb8.size)
      have Sa_8 := Lib.hid ((Sa_7.out.below hb8).more hb8.size)
      have Sb_8 := Lib.hid ((Sb_7.out.below hb8).more hb8.size)
      have Sq_8 := Lib.hid ((Sq_7.out.below hb8).more hb8.size)
      have Sd_8 := Lib.hid ((Sd_7.out.below hb8).more hb8.size)
      have Sh_8 := Lib.hid ((Sh_7.out.below hb8).more hb8.size)
      have So_8 := Lib.hid ((So_7.out.below hb8).more hb8.size)
      have Sf_8 := Lib.hid ((Sf_7.out.below hb8).more hb8.size)
      have HB8 := Lib.hid (HB7.out.trans (hb8.mono HB7.out.size))
      have Sr_8 := Lib.hid (Sees.of_own ho8)
      clear ho8
      clear hb8
      go_wp2_with fail
      obtain ⟨W9, hW9⟩ : ∃ W : World, W = (w8.alloc (.cells #[.int .i64 pk, .int .i64 pt] 36)) := ⟨_, rfl⟩
      rw [← hW9]
      have hb9 : Below w8.heap.size w8 W9 := by rw [hW9]; exact ((Below.refl _ _).alloc (Nat.le_refl _) _)
      have hkv9 : Blk W9 (w8.heap.size) 36 #[.int .i64 pk, .int .i64 pt] := by rw [hW9]; exact Blk.new _ _ _
      have Sx_9 := Lib.hid ((Sx_8.out.below hb9).more hb9.size)
      have Sa_9 := Lib.hid ((Sa_8.out.below hb9).more hb9.size)
      have Sb_9 := Lib.hid ((Sb_8.out.below hb9).more hb9.size)
      have Sq_9 := Lib.hid ((Sq_8.out.below hb9).more hb9.size)
      have Sd_9 := Lib.hid ((Sd_8.out.below hb9).more hb9.size)
      have Sh_9 := Lib.hid ((Sh_8.out.below hb9).more hb9.size)
      have So_9 := Lib.hid ((So_8.out.below hb9).more hb9.size)
      have Sf_9 := Lib.hid ((Sf_8.out.below hb9).more hb9.size)
      have Sr_9 := Lib.hid ((Sr_8.out.below hb9).more hb9.size)
      have HB9 := Lib.hid (HB8.out.trans (hb9.mono HB8.out.size))
      have v0_9 : W9.cell? ⟨w8.heap.size, 0, none⟩ = some (.int .i64 pk) := hkv9.cell 0
      have v1_9 : W9.cell? ⟨w8.heap.size, 1, none⟩ = some (.int .i64 pt) := hkv9.cell 1
      have ltv_9 : w8.heap.size < W9.heap.size := hkv9.lt
      clear hkv9
      clear hW9 hb9
      go_wp2_with fail
      (with_reducible refine (calls_val (v' := .int .i64 0) (qCount_any A4 c4 CL 3 W9 Sq_9.out (by omega)) (by rw [HA3.out]; simp)).mono ?_)
      rintro e w10 ⟨rfl, hb10⟩
      have Sx_10 := Lib.hid ((Sx_9.out.below hb10).more hb10.size)
      have Sa_10 := Lib.hid ((Sa_9.out.below hb10).more hb10.size)
      have Sb_10 := Lib.hid ((Sb_9.out.below hb10).more hb10.size)
      have Sq_10 := Lib.hid ((Sq_9.out.below hb10).more hb10.size)
      have Sd_10 := Lib.hid ((Sd_9.out.below hb10).more hb10.size)
      have Sh_10 := Lib.hid ((Sh_9.out.below hb10).more hb10.size)
      have So_10 := Lib.hid ((So_9.out.below hb10).more hb10.size)
      have Sf_10 := Lib.hid ((Sf_9.out.below hb10).more hb10.size)
      have Sr_10 := Lib.hid ((Sr_9.out.below hb10).more hb10.size)
      have v0_10 := (hb10.cell (p := ⟨w8.heap.size, 0, none⟩) ltv_9).trans v0_9
      have v1_10 := (hb10.cell (p := ⟨w8.heap.size, 1, none⟩) ltv_9).trans v1_9
      have ltv_10 := Nat.lt_of_lt_of_le ltv_9 hb10.size
      have HB10 := Lib.hid (HB9.out.trans (hb10.mono HB9.out.size))
      clear hb10
      go_wp2_with fail
      (with_reducible refine (calls_val (v' := .int .i64 1) (qCount_any A4 c4 CL 4 w10 Sq_10.out (by omega)) (by rw [HA4.out]; simp)).mono ?_)
      rintro e w11 ⟨rfl, hb11⟩
      have Sx_11 := Lib.hid ((Sx_10.out.below hb11).more hb11.size)
      have Sa_11 := Lib.hid ((Sa_10.out.below hb11).more hb11.size)
      have Sb_11 := Lib.hid ((Sb_10.out.below hb11).more hb11.size)
      have Sq_11 := Lib.hid ((Sq_10.out.below hb11).more hb11.size)
      have Sd_11 := Lib.hid ((Sd_10.out.below hb11).more hb11.size)
      have Sh_11 := Lib.hid ((Sh_10.out.below hb11).more hb11.size)
      have So_11 := Lib.hid ((So_10.out.below hb11).more hb11.size)
      have Sf_11 := Lib.hid ((Sf_10.out.below hb11).more hb11.size)
      have Sr_11 := Lib.hid ((Sr_10.out.below hb11).more hb11.size)
      have v0_11 := (hb11.cell (p := ⟨w8.heap.size, 0, none⟩) ltv_10).trans v0_10
      have v1_11 := (hb11.cell (p := ⟨w8.heap.size, 1, none⟩) ltv_10).trans v1_10
      have ltv_11 := Nat.lt_of_lt_of_le ltv_10 hb11.size
      have HB11 := Lib.hid (HB10.out.trans (hb11.mono HB10.out.size))
      clear hb11
      go_wp2_with fail
      obtain ⟨W12, hW12⟩ : ∃ W : World, W = (w11.alloc (.cells #[.int .i64 pk, .int .i64 pt] 36)) := ⟨_, rfl⟩
      rw [← hW12]
      have hb12 : Below w11.heap.size w11 W12 := by rw [hW12]; exact ((Below.refl _ _).alloc (Nat.le_refl _) _)
      have Ss_12 := Lib.hid (show Sees W12 W12.heap.size 2 (some ⟨w11.heap.size, 0, none⟩) ([(pk, pt)]).length (ics [(pk, pt)]) by rw [hW12, size_alloc_]; exact sees_new rfl)
      have Sx_12 := Lib.hid ((Sx_11.out.below hb12).more hb12.size)
      have Sa_12 := Lib.hid ((Sa_11.out.below hb12).more hb12.size)
      have Sb_12 := Lib.hid ((Sb_11.out.below hb12).more hb12.size)
      have Sq_12 := Lib.hid ((Sq_11.out.below hb12).more hb12.size)
      have Sd_12 := Lib.hid ((Sd_11.out.below hb12).more hb12.size)
      have Sh_12 := Lib.hid ((Sh_11.out.below hb12).more hb12.size)
      have So_12 := Lib.hid ((So_11.out.below hb12).more hb12.size)
      have Sf_12 := Lib.hid ((Sf_11.out.below hb12).more hb12.size)
      have Sr_12 := Lib.hid ((Sr_11.out.below hb12).more hb12.size)
      have v0_12 := (hb12.cell (p := ⟨w8.heap.size, 0, none⟩) ltv_11).trans v0_11
      have v1_12 := (hb12.cell (p := ⟨w8.heap.size, 1, none⟩) ltv_11).trans v1_11
      have ltv_12 := Nat.lt_of_lt_of_le ltv_11 hb12.size
      have HB12 := Lib.hid (HB11.out.trans (hb12.mono HB11.out.size))
      clear hW12 hb12
      (refine (calls_val (v' := .bool true) (quiet_below (sameItems_any A6o (some ⟨w11.heap.size, 0, none⟩) c6o 1 RO [(pk, pt)] W12 _ _ So_12.out Ss_12.out (by rw [← HRO.out]; simp) (by simp))) (by rw [← HRO.out, Hp.out, decide_eq_true rfl])).mono ?_)
      rintro e w13 ⟨rfl, hb13⟩
      have Sx_13 := Lib.hid ((Sx_12.out.below hb13).more hb13.size)
      have Sa_13 := Lib.hid ((Sa_12.out.below hb13).more hb13.size)
      have Sb_13 := Lib.hid ((Sb_12.out.below hb13).more hb13.size)
      have Sq_13 := Lib.hid ((Sq_12.out.below hb13).more hb13.size)
      have Sd_13 := Lib.hid ((Sd_12.out.below hb13).more hb13.size)
      have Sh_13 := Lib.hid ((Sh_12.out.below hb13).more hb13.size)
      have So_13 := Lib.hid ((So_12.out.below hb13).more hb13.size)
      have Sf_13 := Lib.hid ((Sf_12.out.below hb13).more hb13.size)
      have Sr_13 := Lib.hid ((Sr_12.out.below hb13).more hb13.size)
      have v0_13 := (hb13.cell (p := ⟨w8.heap.size, 0, none⟩) ltv_12).trans v0_12
      have v1_13 := (hb13.cell (p := ⟨w8.heap.size, 1, none⟩) ltv_12).trans v1_12
      have ltv_13 := Nat.lt_of_lt_of_le ltv_12 hb13.size
      have HB13 := Lib.hid (HB12.out.trans (hb13.mono HB12.out.size))
      clear hb13
      go_wp2_with fail
      (with_reducible refine (calls_val (v' := .bool true) (quiet_below (sameItems_any A6h A8 c6h c8 (popRest klt l) (popRest klt l) w13 _ _ Sh_13.out Sr_13.out (by simp only [popRest_length]; omega) (by simp only [popRest_length]; omega))) (by rw [decide_eq_true rfl])).mono ?_)
      rintro e w14 ⟨rfl, hb14⟩
      have Sx_14 := Lib.hid ((Sx_13.out.below hb14).more hb14.size)
      have Sa_14 := Lib.hid ((Sa_13.out.below hb14).more hb14.size)
      have Sb_14 := Lib.hid ((Sb_13.out.below hb14).more hb14.size)
      have Sq_14 := Lib.hid ((Sq_13.out.below hb14).more hb14.size)
      have Sd_14 := Lib.hid ((Sd_13.out.below hb14).more hb14.size)
      have Sh_14 := Lib.hid ((Sh_13.out.below hb14).more hb14.size)
      have So_14 := Lib.hid ((So_13.out.below hb14).more hb14.size)
      have Sf_14 := Lib.hid ((Sf_13.out.below hb14).more hb14.size)
      have Sr_14 := Lib.hid ((Sr_13.out.below hb14).more hb14.size)
      have v0_14 := (hb14.cell (p := ⟨w8.heap.size, 0, none⟩) ltv_13).trans v0_13
      have v1_14 := (hb14.cell (p := ⟨w8.heap.size, 1, none⟩) ltv_13).trans v1_13
      have ltv_14 := Nat.lt_of_lt_of_le ltv_13 hb14.size
      have HB14 := Lib.hid (HB13.out.trans (hb14.mono HB13.out.size))
      clear hb14
      go_wp2
      go_ret
      exact ⟨rfl, HB14.out⟩
    · have HB0 := Lib.hid (Below.refl w.heap.size w)
      go_enter Try.func7, Try.ntmps7
      go_wp2_with fail
      (with_reducible refine (toItems_any A c l w Sx.out (by omega)).mono ?_)
      rintro e w1 ⟨A1, c1, rfl, ho1, hb1⟩
      have Sx_1 := Lib.hid ((Sx.out.below hb1).more hb1.size)
      have HB1 := Lib.hid (HB0.out.trans (hb1.mono HB0.out.size))
      have Sa_1 := Lib.hid (Sees.of_own ho1)
      clear ho1
      clear hb1
      go_wp2_with fail
      (with_reducible refine (calls_val (v' := .bool false) (quiet_below (heapOrdered_any A1 c1 (l) w1 _ Sa_1.out (by omega))) (by rw [hoB_false hp])).mono ?_)
      rintro e w2 ⟨rfl, hb2⟩
      have Sx_2 := Lib.hid ((Sx_1.out.below hb2).more hb2.size)
      have Sa_2 := Lib.hid ((Sa_1.out.below hb2).more hb2.size)
      have HB2 := Lib.hid (HB1.out.trans (hb2.mono HB1.out.size))
      clear hb2
      go_wp2
      go_ret
      exact ⟨rfl, HB2.out⟩

set_option maxRecDepth 100000 in
theorem fnPopCalls_contract (H : Type) (enc : TypeId × Value → H) (W : World) (base : Nat) (args : Array Value) (ds gs : List (DataW H)) (before : List MemPlace)
    (hval : ∀ (j : Nat) t v, Try.f7.params[j]? = some t → args[j]? = some v → Value.okWide Try.prog W .any base t v)
    (hW : DataW.Whole enc Try.prog Try.f7.params.toList Rows.fnPopCallsSpec.vars false W args.toList ds gs before)
    (hsz : (DataW.weightsEach Try.prog (Try.f7.params.toList ++ Rows.fnPopCallsSpec.plain.varTypes Try.prog) (ds ++ gs)).all (· ≤ reachBytes) = true) :
    Calls Try.prog 7 args W fun e W' => ∃ v, e = .returned v ∧ Rows.fnPopCallsSpec.post enc Try.prog Try.f7 false true false false W args v W' := by
  have hW' := hW
  obtain ⟨p, q, hA0, hV, rfl, hfz, hnd⟩ := hW
  have hA : DataW.TrodAll enc Try.prog W 0 (fun _ => true) true Try.f7.params.toList args.toList ds p := hA0
  rw [Try.params7] at hA hval hsz
  obtain ⟨v0, vs0, d0, ds0, p0, q0, hargs, rfl, rfl, h0, r0⟩ := trodAll_cons hA
  obtain ⟨rfl, rfl, rfl⟩ := trodAll_nil r0
  obtain rfl : args = #[v0] := by cases args; simp_all
  obtain ⟨rfl, rfl⟩ := trodVars_none hV
  have k0 := h0
  have lt0 : ∀ x ∈ p0, x.block < W.heap.size := by obtain ⟨m, hm⟩ := k0; exact DataW.trod_lt m _ _ _ hm
  obtain ⟨a0, len0, c0, rfl⟩ := okWide_slice Try.underlying22 (hval 0 22 v0 rfl rfl)
  obtain ⟨l0, rfl, hs0, hd0⟩ := open_items Try.underlying22 Try.underlying35 (by kernel_rfl) rfl rfl (by kernel_rfl) (by kernel_rfl) Try.underlying3 Try.underlying3 h0
  have hn0 := items_reach hsz (j := 0) rfl rfl Try.underlying22 (by kernel_rfl) hd0
  clear hA0 hsz
  refine (fnPopCalls_any a0 c0 l0 W hs0 hn0).mono fun e W' ⟨he, bel⟩ => ?_
  subst he
  exact ⟨_, rfl, _, _, _, [], _, [], hW', trodAll_mk1 (shut_bool Try.underlying4 _), (trodAll_cons_mk (Below.trod Try.laidOut (by kernel_rfl) (of_decide_eq_true (by kernel_rfl)) k0 bel lt0) trodAll_mk0), rfl, bel.frame _, fun h => by cases h⟩

set_option maxRecDepth 100000 in
theorem fnPopCalls_lifted (os : Os) (started : os.Started) (H : Type) (enc : TypeId × Value → H) :
    ReturnsInHanded {} Try.checked os 7 .any (Rows.fnPopCallsSpec.pre6 enc Try.prog Try.f7 Rows.fnPopCallsRow.domain false) (Rows.fnPopCallsSpec.post enc Try.prog Try.f7 false true false false) := by
  refine returnsInHanded_of_change_sized (C := Try.checked) Try.own started (by kernel_rfl) Try.func7
    (ChangeSpec.witness6 (enc := enc) (C := Try.checked) false ⟨#[], #[.slice none 0 0], []⟩ 8 (by kernel_rfl) (by kernel_rfl) (by kernel_rfl) (by kernel_rfl)) ?_
  intro W base args ds gs before hval hW _ hsz _
  exact fnPopCalls_contract H enc W base args ds gs before hval hW hsz

theorem fnPopCalls_holds : Rows.FnPopCallsSaid :=
  OpenClaim.holds_of_wide 7 Try.f7 rfl rfl rfl rfl rfl rfl rfl ⟨rfl, rfl, rfl, rfl, rfl⟩ rfl rfl rfl rfl rfl (by kernel_rfl) Try.func7 (by kernel_rfl)
    (of_decide_eq_true (by kernel_rfl)) (by unfold Func.isWrapper; first | (rw [if_pos (by decide +kernel)]; kernel_rfl) | (rw [if_neg (by decide +kernel)]; exact ⟨rfl, rfl⟩))
    (fun os started H enc _ => fnPopCalls_lifted os started H enc)
#print axioms fnPopCalls_holds
end Go.Proofs.Ytejhccnhkmkchaa
