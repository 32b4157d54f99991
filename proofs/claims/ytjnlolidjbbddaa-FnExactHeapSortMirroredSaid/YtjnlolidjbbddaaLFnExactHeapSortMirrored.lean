/- For every list of numbers, FnExactHeapSortMirrored returns true: HeapSortMirrored answers as the spec does, keeps its argument, and shares nothing with it. No condition (the law itself passes over lists longer than 1<<20). -/
import Derived.Test.YtjnlolidjbbddaaSortMirror
import Derived.Test.YtjnlolidjbbddaaAscending
import Derived.Test.YtjnlolidjbbddaaExactKit
import Derived.Test.YtjnlolidjbbddaaArgs
namespace Go.Proofs.Ytjnlolidjbbddaa
set_option linter.unusedVariables false
open Go.RowKit Go.ChangeShapes Go.WideShapes Go.ChangeAt

set_option maxHeartbeats 1000000 in
theorem fnExactHeapSortMirrored_any (A : Option Addr) (c : Nat) (l : List Int) (w : World) (hs : Sees w w.heap.size 1 A l.length (l.map (Value.int .i64))) (hw : ∀ x ∈ l, (Lit.int .i64 x).wf = true) (hn : l.length * 8 ≤ 140737488351232) :
    Calls Try.prog 3 #[.slice A l.length c] w fun e w' => e = .returned (.bool true) ∧ Below w.heap.size w w' := by
  have Sx := Lib.hid hs
  clear hs
  have HB0 := Lib.hid (Below.refl w.heap.size w)
  by_cases hbig : 1048576 < l.length
  · have hb1 : decide ((1048576 : Int) < (l.length : Int)) = true := decide_eq_true (by omega)
    go_enter Try.func3, Try.ntmps3
    go_wp2
    go_ret
    exact ⟨rfl, HB0.out⟩
  · have hb1 : decide ((1048576 : Int) < (l.length : Int)) = false := decide_eq_false (by omega)
    obtain ⟨Y, hY⟩ : ∃ Y : List Int, sortF ilt 0 l = Y := ⟨_, rfl⟩
    have NY : Y.length ≤ l.length := by rw [← hY]; exact Nat.le_of_eq (sortF_length 0 ilt l)
    have HY := Lib.hid hY
    clear hY
    have t1 : decide ((1 : Int) + (l.length : Int) < 0) = false := decide_eq_false (by omega)
    have t2 : decide ((1 : Int) + (Y.length : Int) < 0) = false := decide_eq_false (by omega)
    have t3 : (((1 : Int) + (Y.length : Int)) != ((1 : Int) + (Y.length : Int))) = false := by simp
    go_enter Try.func3, Try.ntmps3
    go_wp2_with fail
    (with_reducible refine (toIntS_any A c l w ((Sx.out.below HB0.out).more HB0.out.size) (by omega)).mono ?_)
    rintro e w1 ⟨A1, c1, rfl, ho1, hb1⟩
    have HB1 := Lib.hid (HB0.out.trans (hb1.mono HB0.out.size))
    have Ot_1 := Lib.hid ho1
    clear ho1 hb1
    go_wp2_with fail
    (with_reducible refine (newn_eq (specSortMirrored_any A1 c1 l w1 (Sees.of_own Ot_1.out) (by omega)) HY.out).mono ?_)
    rintro e w2 ⟨A2, c2, rfl, ho2, hb2⟩
    have LTtw := Lib.hid (fun g hg => (Ot_1.out.lt g hg).2)
    have Ot_2 := Lib.hid (own_step Ot_1.out hb2)
    have HB2 := Lib.hid (HB1.out.trans (hb2.mono HB1.out.size))
    have Ow_2 := Lib.hid ho2
    clear ho2 hb2
    go_wp2_with fail
    (with_reducible refine (toIntS_any A c l w2 ((Sx.out.below HB2.out).more HB2.out.size) (by omega)).mono ?_)
    rintro e w3 ⟨A3, c3, rfl, ho3, hb3⟩
    have LTwxx := Lib.hid (fun g hg => (Ow_2.out.lt g hg).2)
    have Ow_3 := Lib.hid (own_step Ow_2.out hb3)
    have HB3 := Lib.hid (HB2.out.trans (hb3.mono HB2.out.size))
    have Oxx_3 := Lib.hid ho3
    clear ho3 hb3
    go_wp2_with fail
    (with_reducible refine (newn_eq (sortMirrored_any A3 c3 l w3 (Sees.of_own Oxx_3.out) (by omega)) HY.out).mono ?_)
    rintro e w4 ⟨A4, c4, rfl, ho4, hb4⟩
    have LTwg := Lib.hid (fun g hg => (Ow_3.out.lt g hg).2)
    have LTxxg := Lib.hid (fun g hg => (Oxx_3.out.lt g hg).2)
    have Ow_4 := Lib.hid (own_step Ow_3.out hb4)
    have Oxx_4 := Lib.hid (own_step Oxx_3.out hb4)
    have HB4 := Lib.hid (HB3.out.trans (hb4.mono HB3.out.size))
    have Og_4 := Lib.hid ho4
    clear ho4 hb4
    go_wp2_with fail
    (with_reducible refine (calls_val (v' := .bool true) (quiet_below (eqIntS_any A4 A2 c4 c2 Y Y w4 _ _ (Sees.of_own Og_4.out) (Sees.of_own Ow_4.out) (by omega) (by omega))) (by rw [decide_eq_true rfl])).mono ?_)
    rintro e w5 ⟨rfl, hb5⟩
    have Ow_5 := Lib.hid (own_step Ow_4.out hb5)
    have Oxx_5 := Lib.hid (own_step Oxx_4.out hb5)
    have Og_5 := Lib.hid (own_step Og_4.out hb5)
    have HB5 := Lib.hid (HB4.out.trans (hb5.mono HB4.out.size))
    clear hb5
    go_wp2_with fail
    (with_reducible refine (toIntS_any A c l w5 ((Sx.out.below HB5.out).more HB5.out.size) (by omega)).mono ?_)
    rintro e w6 ⟨A6, c6, rfl, ho6, hb6⟩
    have LTwt2 := Lib.hid (fun g hg => (Ow_5.out.lt g hg).2)
    have LTxxt2 := Lib.hid (fun g hg => (Oxx_5.out.lt g hg).2)
    have LTgt2 := Lib.hid (fun g hg => (Og_5.out.lt g hg).2)
    have Ow_6 := Lib.hid (own_step Ow_5.out hb6)
    have Oxx_6 := Lib.hid (own_step Oxx_5.out hb6)
    have Og_6 := Lib.hid (own_step Og_5.out hb6)
    have HB6 := Lib.hid (HB5.out.trans (hb6.mono HB5.out.size))
    have Ot2_6 := Lib.hid ho6
    clear ho6 hb6
    go_wp2_with fail
    (with_reducible refine (calls_val (v' := .bool true) (quiet_below (eqIntS_any A3 A6 c3 c6 l l w6 _ _ (Sees.of_own Oxx_6.out) (Sees.of_own Ot2_6.out) (by omega) (by omega))) (by rw [decide_eq_true rfl])).mono ?_)
    rintro e w7 ⟨rfl, hb7⟩
    have Ow_7 := Lib.hid (own_step Ow_6.out hb7)
    have Oxx_7 := Lib.hid (own_step Oxx_6.out hb7)
    have Og_7 := Lib.hid (own_step Og_6.out hb7)
    have Ot2_7 := Lib.hid (own_step Ot2_6.out hb7)
    have HB7 := Lib.hid (HB6.out.trans (hb7.mono HB6.out.size))
    clear hb7
    go_wp2_with fail
    (with_reducible refine (markIntS_any A3 c3 l 1 w7 _ Oxx_7.out (by omega) (by omega) (by omega)).mono ?_)
    rintro e w8 ⟨rfl, ho8, hg8⟩
    have Ow_8 := Lib.hid (Ow_7.out.kept hg8 (own_apart Oxx_7.out LTwxx.out))
    have Og_8 := Lib.hid (Og_7.out.kept hg8 (own_apart' Og_7.out LTxxg.out))
    have HB8 := Lib.hid (HB7.out.grown hg8 HB7.out.size (fun g hg => Nat.le_trans (HB2.out.size) (Oxx_7.out.lt g hg).1))
    have Oxx_8 := Lib.hid ho8
    clear ho8 hg8
    go_wp2_with fail
    (with_reducible refine (calls_val (v' := .bool true) (quiet_below (eqIntS_any A4 A2 c4 c2 Y Y w8 _ _ (Sees.of_own Og_8.out) (Sees.of_own Ow_8.out) (by omega) (by omega))) (by rw [decide_eq_true rfl])).mono ?_)
    rintro e w9 ⟨rfl, hb9⟩
    have Ow_9 := Lib.hid (own_step Ow_8.out hb9)
    have Oxx_9 := Lib.hid (own_step Oxx_8.out hb9)
    have Og_9 := Lib.hid (own_step Og_8.out hb9)
    have HB9 := Lib.hid (HB8.out.trans (hb9.mono HB8.out.size))
    clear hb9
    go_wp2_with fail
    (with_reducible refine (markIntS_any A4 c4 Y 1 w9 _ Og_9.out (by omega) (by omega) (by omega)).mono ?_)
    rintro e w10 ⟨rfl, ho10, hg10⟩
    have Ow_10 := Lib.hid (Ow_9.out.kept hg10 (own_apart Og_9.out LTwg.out))
    have HB10 := Lib.hid (HB9.out.grown hg10 HB9.out.size (fun g hg => Nat.le_trans (HB3.out.size) (Og_9.out.lt g hg).1))
    have Og_10 := Lib.hid ho10
    clear ho10 hg10
    go_wp2_with fail
    (with_reducible refine (quiet_below (held_any A4 c4 Y.length 1 w10 _ (Sees.of_own Og_10.out) (by omega) (by omega) (by omega))).mono ?_)
    rintro e w11 ⟨rfl, hb11⟩
    have Ow_11 := Lib.hid (own_step Ow_10.out hb11)
    have Og_11 := Lib.hid (own_step Og_10.out hb11)
    have HB11 := Lib.hid (HB10.out.trans (hb11.mono HB10.out.size))
    clear hb11
    go_wp2_with fail
    (with_reducible refine (toIntS_any A c l w11 ((Sx.out.below HB11.out).more HB11.out.size) (by omega)).mono ?_)
    rintro e w12 ⟨A12, c12, rfl, ho12, hb12⟩
    have LTwt3 := Lib.hid (fun g hg => (Ow_11.out.lt g hg).2)
    have LTgt3 := Lib.hid (fun g hg => (Og_11.out.lt g hg).2)
    have Ow_12 := Lib.hid (own_step Ow_11.out hb12)
    have Og_12 := Lib.hid (own_step Og_11.out hb12)
    have HB12 := Lib.hid (HB11.out.trans (hb12.mono HB11.out.size))
    have Ot3_12 := Lib.hid ho12
    clear ho12 hb12
    go_wp2_with fail
    (with_reducible refine (newn_eq (sortMirrored_any A12 c12 l w12 (Sees.of_own Ot3_12.out) (by omega)) HY.out).mono ?_)
    rintro e w13 ⟨A13, c13, rfl, ho13, hb13⟩
    have LTwh := Lib.hid (fun g hg => (Ow_12.out.lt g hg).2)
    have LTgh := Lib.hid (fun g hg => (Og_12.out.lt g hg).2)
    have LTt3h := Lib.hid (fun g hg => (Ot3_12.out.lt g hg).2)
    have Ow_13 := Lib.hid (own_step Ow_12.out hb13)
    have Og_13 := Lib.hid (own_step Og_12.out hb13)
    have Ot3_13 := Lib.hid (own_step Ot3_12.out hb13)
    have HB13 := Lib.hid (HB12.out.trans (hb13.mono HB12.out.size))
    have Oh_13 := Lib.hid ho13
    clear ho13 hb13
    go_wp2_with fail
    (with_reducible refine (calls_val (v' := .bool true) (quiet_below (eqIntS_any A13 A2 c13 c2 Y Y w13 _ _ (Sees.of_own Oh_13.out) (Sees.of_own Ow_13.out) (by omega) (by omega))) (by rw [decide_eq_true rfl])).mono ?_)
    rintro e w14 ⟨rfl, hb14⟩
    have Ow_14 := Lib.hid (own_step Ow_13.out hb14)
    have Og_14 := Lib.hid (own_step Og_13.out hb14)
    have Oh_14 := Lib.hid (own_step Oh_13.out hb14)
    have HB14 := Lib.hid (HB13.out.trans (hb14.mono HB13.out.size))
    clear hb14
    go_wp2_with fail
    (with_reducible refine (quiet_below (held_any A4 c4 Y.length 1 w14 _ (Sees.of_own Og_14.out) (by omega) (by omega) (by omega))).mono ?_)
    rintro e w15 ⟨rfl, hb15⟩
    have Ow_15 := Lib.hid (own_step Ow_14.out hb15)
    have Og_15 := Lib.hid (own_step Og_14.out hb15)
    have Oh_15 := Lib.hid (own_step Oh_14.out hb15)
    have HB15 := Lib.hid (HB14.out.trans (hb15.mono HB14.out.size))
    clear hb15
    go_wp2
    go_ret
    exact ⟨rfl, HB15.out⟩

set_option maxRecDepth 100000 in
theorem fnExactHeapSortMirrored_contract (H : Type) (enc : TypeId × Value → H) (W : World) (base : Nat) (args : Array Value) (ds gs : List (DataW H)) (before : List MemPlace)
    (hval : ∀ (j : Nat) t v, Try.f3.params[j]? = some t → args[j]? = some v → Value.okWide Try.prog W .any base t v)
    (hW : DataW.Whole enc Try.prog Try.f3.params.toList Rows.fnExactHeapSortMirroredSpec.vars false W args.toList ds gs before)
    (hsz : (DataW.weightsEach Try.prog (Try.f3.params.toList ++ Rows.fnExactHeapSortMirroredSpec.plain.varTypes Try.prog) (ds ++ gs)).all (· ≤ reachBytes) = true) :
    Calls Try.prog 3 args W fun e W' => ∃ v, e = .returned v ∧ Rows.fnExactHeapSortMirroredSpec.post enc Try.prog Try.f3 false true false false W args v W' := by
  have hW' := hW
  obtain ⟨p, q, hA0, hV, rfl, hfz, hnd⟩ := hW
  have hA : DataW.TrodAll enc Try.prog W 0 (fun _ => true) true Try.f3.params.toList args.toList ds p := hA0
  rw [Try.params3] at hA hval hsz
  obtain ⟨v0, vs0, d0, ds0, p0, q0, hargs, rfl, rfl, h0, r0⟩ := trodAll_cons hA
  obtain ⟨rfl, rfl, rfl⟩ := trodAll_nil r0
  obtain rfl : args = #[v0] := by cases args; simp_all
  obtain ⟨rfl, rfl⟩ := trodVars_none hV
  have k0 := h0
  have lt0 : ∀ x ∈ p0, x.block < W.heap.size := by obtain ⟨m, hm⟩ := k0; exact DataW.trod_lt m _ _ _ hm
  obtain ⟨a0, len0, c0, rfl⟩ := okWide_slice Try.underlying22 (hval 0 22 v0 rfl rfl)
  obtain ⟨l0, rfl, hs0, hw0, hd0⟩ := open_nums Try.underlying22 Try.underlying3 (by kernel_rfl) h0
  have hn0 := nums_reach hsz (j := 0) rfl rfl Try.underlying22 (show Try.prog.bytesOf 3 = 8 by kernel_rfl) hd0
  clear hA0 hsz
  refine (fnExactHeapSortMirrored_any a0 c0 l0 W hs0 hw0 hn0).mono fun e W' ⟨he, bel⟩ => ?_
  subst he
  exact ⟨_, rfl, _, _, _, [], _, [], hW', trodAll_mk1 (shut_bool Try.underlying4 _), (trodAll_cons_mk (Below.trod Try.laidOut (by kernel_rfl) (of_decide_eq_true (by kernel_rfl)) k0 bel lt0) trodAll_mk0), rfl, bel.frame _, fun h => by cases h⟩

set_option maxRecDepth 100000 in
theorem fnExactHeapSortMirrored_lifted (os : Os) (started : os.Started) (H : Type) (enc : TypeId × Value → H) :
    ReturnsInHanded {} Try.checked os 3 .any (Rows.fnExactHeapSortMirroredSpec.pre6 enc Try.prog Try.f3 Rows.fnExactHeapSortMirroredRow.domain false) (Rows.fnExactHeapSortMirroredSpec.post enc Try.prog Try.f3 false true false false) := by
  refine returnsInHanded_of_change_sized (C := Try.checked) Try.own started (by kernel_rfl) Try.func3
    (ChangeSpec.witness6 (enc := enc) (C := Try.checked) false ⟨#[], #[.slice none 0 0], []⟩ 8 (by kernel_rfl) (by kernel_rfl) (by kernel_rfl) (by kernel_rfl)) ?_
  intro W base args ds gs before hval hW _ hsz _
  exact fnExactHeapSortMirrored_contract H enc W base args ds gs before hval hW hsz

theorem fnExactHeapSortMirrored_holds : Rows.FnExactHeapSortMirroredSaid :=
  OpenClaim.holds_of_wide 3 Try.f3 rfl rfl rfl rfl rfl rfl rfl ⟨rfl, rfl, rfl, rfl, rfl⟩ rfl rfl rfl rfl rfl (by kernel_rfl) Try.func3 (by kernel_rfl)
    (of_decide_eq_true (by kernel_rfl)) (by unfold Func.isWrapper; first | (rw [if_pos (by decide +kernel)]; kernel_rfl) | (rw [if_neg (by decide +kernel)]; exact ⟨rfl, rfl⟩))
    (fun os started H enc _ => fnExactHeapSortMirrored_lifted os started H enc)
#print axioms fnExactHeapSortMirrored_holds
end Go.Proofs.Ytjnlolidjbbddaa
