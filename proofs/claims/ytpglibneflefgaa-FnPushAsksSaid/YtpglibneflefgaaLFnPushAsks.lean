/- For every list of items and every item, FnPushAsks returns true: Push calls Less at most as often as the new number of items has binary digits, and at least once if the list is not empty. No condition. -/
import Derived.Test.YtpglibneflefgaaLawFns
import Derived.Test.YtpglibneflefgaaCallFns
import Derived.Test.YtpglibneflefgaaCallLaws
import Derived.Test.YtpglibneflefgaaArgs
import Derived.Deep.RegionHeld3
namespace Go.Proofs.Ytpglibneflefgaa
set_option linter.unusedVariables false
open Go.RowKit Go.ChangeShapes Go.WideShapes Go.ChangeAt

set_option maxHeartbeats 800000 in
theorem fnPushAsks_any (A : Option Addr) (c : Nat) (l : List (Int × Int)) (k t : Int) (w : World) (hs : Sees w w.heap.size 2 A l.length (ics l)) (hn : l.length * 16 ≤ 140737488351232) :
    Calls Try.prog 5 #[.slice A l.length c, .agg #[.int .i64 k, .int .i64 t]] w fun e w' => e = .returned (.bool true) ∧ Below w.heap.size w w' := by
  have Sx := Lib.hid hs
  clear hs
  have hcl : ((pushCalls (bitsN l.length) l k t).2).length ≤ 200 := by have := pushCalls_short l k t; have := bits_small' l.length hn; omega
  have hcl1 : 1 ≤ ((pushCalls (bitsN l.length) l k t).2).length := pushCalls_length l k t
  have ha1 : cntK 1 ((pushCalls (bitsN l.length) l k t).2) ≤ bitsN (l.length + 1) := by have := (pushCalls_adds l k t).high; have h2 := bits_mono (show l.length ≤ l.length + 1 by omega); simp [cntK] at this ⊢; omega
  have ha2 : 0 < l.length → 0 < cntK 1 ((pushCalls (bitsN l.length) l k t).2) := fun h => by have := (pushCalls_adds l k t).low; rw [if_neg (by omega)] at this; omega
  obtain ⟨CL, hCL⟩ : ∃ x : List Cal, (pushCalls (bitsN l.length) l k t).2 = x := ⟨_, rfl⟩
  rw [hCL] at hcl hcl1 ha1 ha2
  have HCL := Lib.hid hCL
  clear hCL
  obtain ⟨K, hK⟩ : ∃ x : Nat, cntK 1 CL = x := ⟨_, rfl⟩
  have HK := Lib.hid hK
  clear hK
  rw [HK.out] at ha1 ha2
  have hbt : (bitsN (l.length + 1)) ≤ 62 := bits_small _ (by omega)
  obtain ⟨BT, hBT⟩ : ∃ x : Nat, bitsN (l.length + 1) = x := ⟨_, rfl⟩
  rw [hBT] at hbt
  have HBT := Lib.hid hBT
  clear hBT
  rw [HBT.out] at ha1
  have t1 : decide ((K : Int) ≤ (BT : Int)) = true := decide_eq_true (by omega)
  have t1' : decide (K ≤ BT) = true := decide_eq_true (by omega)
  by_cases h0 : l.length = 0
  · have hz : ((l.length : Int) == 0) = true := by rw [beq_iff_eq]; omega
    clear h0
    have HB0 := Lib.hid (Below.refl w.heap.size w)
    go_enter Try.func5, Try.ntmps5
    go_wp2_with fail
    obtain ⟨W1, hW1⟩ : ∃ W : World, W = (w.alloc (.cells #[.int .i64 k, .int .i64 t] 34)) := ⟨_, rfl⟩
    rw [← hW1]
    have hb1 : Below w.heap.size w W1 := by rw [hW1]; exact ((Below.refl _ _).alloc (Nat.le_refl _) _)
    have hku1 : Blk W1 (w.heap.size) 34 #[.int .i64 k, .int .i64 t] := by rw [hW1]; exact Blk.new _ _ _
    have Sx_1 := Lib.hid ((Sx.out.below hb1).more hb1.size)
    have HB1 := Lib.hid (HB0.out.trans (hb1.mono HB0.out.size))
    have u0_1 : W1.cell? ⟨w.heap.size, 0, none⟩ = some (.int .i64 k) := hku1.cell 0
    have u1_1 : W1.cell? ⟨w.heap.size, 1, none⟩ = some (.int .i64 t) := hku1.cell 1
    have ltu_1 : w.heap.size < W1.heap.size := hku1.lt
    clear hku1
    clear hW1 hb1
    have Sx_1d := Lib.hid (Sees.drewT Sx_1.out)
    have HB1d := Lib.hid HB1.out.drew
    go_region_held3 (fun w' => w'.cell? ⟨w.heap.size, 0, none⟩ = some (.int .i64 k) ∧ w'.cell? ⟨w.heap.size, 1, none⟩ = some (.int .i64 t)) (first | go_keep | (exact ⟨by assumption, by assumption⟩))
      (first
        | (go_at_call 15; (with_reducible refine (calls_val (v' := .int .i64 (K : Nat)) (asked_any A3 c3 CL w3 Sq_3.out (by omega)) (by rw [HK.out])).mono ?_); rintro e w4 ⟨rfl, hb4⟩; have Sx_4 := Lib.hid ((Sx_3.out.below hb4).more hb4.size); have Sa_4 := Lib.hid ((Sa_3.out.below hb4).more hb4.size); have Sq_4 := Lib.hid ((Sq_3.out.below hb4).more hb4.size); have u0_4 := (hb4.cell (p := ⟨w.heap.size, 0, none⟩) ltu_3).trans u0_3; have u1_4 := (hb4.cell (p := ⟨w.heap.size, 1, none⟩) ltu_3).trans u1_3; have ltu_4 := Nat.lt_of_lt_of_le ltu_3 hb4.size; have HB4 := Lib.hid (HB3.out.trans (hb4.mono HB3.out.size)); clear hb4)
        | (go_at_call 21; (with_reducible refine (newc_eq (pushCalls_any (bitsN l.length) A2 c2 l k t w2 Sa_2.out (by omega) (push_fuel l) (Nat.le_trans (bits_small' l.length (by omega)) (by decide))) HCL.out).mono ?_); rintro e w3 ⟨A3, c3, rfl, ho3, hb3⟩; have Sx_3 := Lib.hid ((Sx_2.out.below hb3).more hb3.size); have Sa_3 := Lib.hid ((Sa_2.out.below hb3).more hb3.size); have u0_3 := (hb3.cell (p := ⟨w.heap.size, 0, none⟩) ltu_2).trans u0_2; have u1_3 := (hb3.cell (p := ⟨w.heap.size, 1, none⟩) ltu_2).trans u1_2; have ltu_3 := Nat.lt_of_lt_of_le ltu_2 hb3.size; have HB3 := Lib.hid (HB2.out.trans (hb3.mono HB2.out.size)); have Sq_3 := Lib.hid (Sees.of_own ho3); clear ho3; clear hb3)
        | (go_at_call 17; (with_reducible refine (toItems_any A c l W1.drew Sx_1d.out (by omega)).mono ?_); rintro e w2 ⟨A2, c2, rfl, ho2, hb2⟩; have Sx_2 := Lib.hid ((Sx_1d.out.below hb2).more hb2.size); have u0_2 := (hb2.cell (p := ⟨w.heap.size, 0, none⟩) ltu_1).trans u0_1; have u1_2 := (hb2.cell (p := ⟨w.heap.size, 1, none⟩) ltu_1).trans u1_1; have ltu_2 := Nat.lt_of_lt_of_le ltu_1 hb2.size; have HB2 := Lib.hid (HB1d.out.trans (hb2.mono HB1d.out.size)); have Sa_2 := Lib.hid (Sees.of_own ho2); clear ho2; clear hb2))
    go_wp2_with fail
    (with_reducible refine (calls_val (v' := .int .i64 (BT : Nat)) (quiet_same (bits_next l.length w4 (by omega))) (by rw [HBT.out])).mono ?_)
    rintro e w5 ⟨rfl, hb5⟩
    have Sx_5 := Lib.hid ((Sx_4.out.below hb5).more hb5.size)
    have Sa_5 := Lib.hid ((Sa_4.out.below hb5).more hb5.size)
    have Sq_5 := Lib.hid ((Sq_4.out.below hb5).more hb5.size)
    have u0_5 := (hb5.cell (p := ⟨w.heap.size, 0, none⟩) ltu_4).trans u0_4
    have u1_5 := (hb5.cell (p := ⟨w.heap.size, 1, none⟩) ltu_4).trans u1_4
    have ltu_5 := Nat.lt_of_lt_of_le ltu_4 hb5.size
    have HB5 := Lib.hid (HB4.out.trans (hb5.mono HB4.out.size))
    clear hb5
    by_cases hk0 : 0 < K
    · have t2 : decide (0 < K) = true := decide_eq_true hk0
      have t2z : decide ((0 : Int) < (K : Int)) = true := decide_eq_true (by omega)
      go_wp2
      go_ret
      exact ⟨rfl, HB5.out⟩
    · have t2 : decide (0 < K) = false := decide_eq_false hk0
      have t2z : decide ((0 : Int) < (K : Int)) = false := decide_eq_false (by omega)
      go_wp2
      go_ret
      exact ⟨rfl, HB5.out⟩
  · have hk0 : 0 < K := ha2 (by omega)
    have t2 : decide ((0 : Int) < (K : Int)) = true := decide_eq_true (by omega)
    have t2' : decide (0 < K) = true := decide_eq_true (by omega)
    clear h0
    have HB0 := Lib.hid (Below.refl w.heap.size w)
    go_enter Try.func5, Try.ntmps5
    go_wp2_with fail
    obtain ⟨W1, hW1⟩ : ∃ W : World, W = (w.alloc (.cells #[.int .i64 k, .int .i64 t] 34)) := ⟨_, rfl⟩
    rw [← hW1]
    have hb1 : Below w.heap.size w W1 := by rw [hW1]; exact ((Below.refl _ _).alloc (Nat.le_refl _) _)
    have hku1 : Blk W1 (w.heap.size) 34 #[.int .i64 k, .int .i64 t] := by rw [hW1]; exact Blk.new _ _ _
    have Sx_1 := Lib.hid ((Sx.out.below hb1).more hb1.size)
    have HB1 := Lib.hid (HB0.out.trans (hb1.mono HB0.out.size))
    have u0_1 : W1.cell? ⟨w.heap.size, 0, none⟩ = some (.int .i64 k) := hku1.cell 0
    have u1_1 : W1.cell? ⟨w.heap.size, 1, none⟩ = some (.int .i64 t) := hku1.cell 1
    have ltu_1 : w.heap.size < W1.heap.size := hku1.lt
    clear hku1
    clear hW1 hb1
    have Sx_1d := Lib.hid (Sees.drewT Sx_1.out)
    have HB1d := Lib.hid HB1.out.drew
    go_region_held3 (fun w' => w'.cell? ⟨w.heap.size, 0, none⟩ = some (.int .i64 k) ∧ w'.cell? ⟨w.heap.size, 1, none⟩ = some (.int .i64 t)) (first | go_keep | (exact ⟨by assumption, by assumption⟩))
      (first
        | (go_at_call 15; (with_reducible refine (calls_val (v' := .int .i64 (K : Nat)) (asked_any A3 c3 CL w3 Sq_3.out (by omega)) (by rw [HK.out])).mono ?_); rintro e w4 ⟨rfl, hb4⟩; have Sx_4 := Lib.hid ((Sx_3.out.below hb4).more hb4.size); have Sa_4 := Lib.hid ((Sa_3.out.below hb4).more hb4.size); have Sq_4 := Lib.hid ((Sq_3.out.below hb4).more hb4.size); have u0_4 := (hb4.cell (p := ⟨w.heap.size, 0, none⟩) ltu_3).trans u0_3; have u1_4 := (hb4.cell (p := ⟨w.heap.size, 1, none⟩) ltu_3).trans u1_3; have ltu_4 := Nat.lt_of_lt_of_le ltu_3 hb4.size; have HB4 := Lib.hid (HB3.out.trans (hb4.mono HB3.out.size)); clear hb4)
        | (go_at_call 21; (with_reducible refine (newc_eq (pushCalls_any (bitsN l.length) A2 c2 l k t w2 Sa_2.out (by omega) (push_fuel l) (Nat.le_trans (bits_small' l.length (by omega)) (by decide))) HCL.out).mono ?_); rintro e w3 ⟨A3, c3, rfl, ho3, hb3⟩; have Sx_3 := Lib.hid ((Sx_2.out.below hb3).more hb3.size); have Sa_3 := Lib.hid ((Sa_2.out.below hb3).more hb3.size); have u0_3 := (hb3.cell (p := ⟨w.heap.size, 0, none⟩) ltu_2).trans u0_2; have u1_3 := (hb3.cell (p := ⟨w.heap.size, 1, none⟩) ltu_2).trans u1_2; have ltu_3 := Nat.lt_of_lt_of_le ltu_2 hb3.size; have HB3 := Lib.hid (HB2.out.trans (hb3.mono HB2.out.size)); have Sq_3 := Lib.hid (Sees.of_own ho3); clear ho3; clear hb3)
        | (go_at_call 17; (with_reducible refine (toItems_any A c l W1.drew Sx_1d.out (by omega)).mono ?_); rintro e w2 ⟨A2, c2, rfl, ho2, hb2⟩; have Sx_2 := Lib.hid ((Sx_1d.out.below hb2).more hb2.size); have u0_2 := (hb2.cell (p := ⟨w.heap.size, 0, none⟩) ltu_1).trans u0_1; have u1_2 := (hb2.cell (p := ⟨w.heap.size, 1, none⟩) ltu_1).trans u1_1; have ltu_2 := Nat.lt_of_lt_of_le ltu_1 hb2.size; have HB2 := Lib.hid (HB1d.out.trans (hb2.mono HB1d.out.size)); have Sa_2 := Lib.hid (Sees.of_own ho2); clear ho2; clear hb2))
    go_wp2_with fail
    (with_reducible refine (calls_val (v' := .int .i64 (BT : Nat)) (quiet_same (bits_next l.length w4 (by omega))) (by rw [HBT.out])).mono ?_)
    rintro e w5 ⟨rfl, hb5⟩
    have Sx_5 := Lib.hid ((Sx_4.out.below hb5).more hb5.size)
    have Sa_5 := Lib.hid ((Sa_4.out.below hb5).more hb5.size)
    have Sq_5 := Lib.hid ((Sq_4.out.below hb5).more hb5.size)
    have u0_5 := (hb5.cell (p := ⟨w.heap.size, 0, none⟩) ltu_4).trans u0_4
    have u1_5 := (hb5.cell (p := ⟨w.heap.size, 1, none⟩) ltu_4).trans u1_4
    have ltu_5 := Nat.lt_of_lt_of_le ltu_4 hb5.size
    have HB5 := Lib.hid (HB4.out.trans (hb5.mono HB4.out.size))
    clear hb5
    go_wp2
    go_ret
    exact ⟨rfl, HB5.out⟩

set_option maxRecDepth 100000 in
theorem fnPushAsks_contract (H : Type) (enc : TypeId × Value → H) (W : World) (base : Nat) (args : Array Value) (ds gs : List (DataW H)) (before : List MemPlace)
    (hval : ∀ (j : Nat) t v, Try.f5.params[j]? = some t → args[j]? = some v → Value.okWide Try.prog W .any base t v)
    (hW : DataW.Whole enc Try.prog Try.f5.params.toList Rows.fnPushAsksSpec.vars false W args.toList ds gs before)
    (hsz : (DataW.weightsEach Try.prog (Try.f5.params.toList ++ Rows.fnPushAsksSpec.plain.varTypes Try.prog) (ds ++ gs)).all (· ≤ reachBytes) = true) :
    Calls Try.prog 5 args W fun e W' => ∃ v, e = .returned v ∧ Rows.fnPushAsksSpec.post enc Try.prog Try.f5 false true false false W args v W' := by
  have hW' := hW
  obtain ⟨p, q, hA0, hV, rfl, hfz, hnd⟩ := hW
  have hA : DataW.TrodAll enc Try.prog W 0 (fun _ => true) true Try.f5.params.toList args.toList ds p := hA0
  rw [Try.params5] at hA hval hsz
  obtain ⟨v0, vs0, d0, ds0, p0, q0, hargs, rfl, rfl, h0, r0⟩ := trodAll_cons hA
  obtain ⟨v1, vs1, d1, ds1, p1, q1, rfl, rfl, rfl, h1, r1⟩ := trodAll_cons r0
  obtain ⟨rfl, rfl, rfl⟩ := trodAll_nil r1
  obtain rfl : args = #[v0, v1] := by cases args; simp_all
  obtain ⟨rfl, rfl⟩ := trodVars_none hV
  have k0 := h0
  have lt0 : ∀ x ∈ p0, x.block < W.heap.size := by obtain ⟨m, hm⟩ := k0; exact DataW.trod_lt m _ _ _ hm
  have k1 := h1
  have lt1 : ∀ x ∈ p1, x.block < W.heap.size := by obtain ⟨m, hm⟩ := k1; exact DataW.trod_lt m _ _ _ hm
  obtain ⟨a0, len0, c0, rfl⟩ := okWide_slice Try.underlying22 (hval 0 22 v0 rfl rfl)
  obtain ⟨l0, rfl, hs0, hd0⟩ := open_items Try.underlying22 Try.underlying34 (by kernel_rfl) rfl rfl (by kernel_rfl) (by kernel_rfl) Try.underlying3 Try.underlying3 h0
  have hn0 := items_reach hsz (j := 0) rfl rfl Try.underlying22 (by kernel_rfl) hd0
  obtain ⟨x1, y1, rfl, hd1⟩ := open_item Try.underlying34 (by kernel_rfl) (by kernel_rfl) Try.underlying3 Try.underlying3 (hval 1 34 v1 rfl rfl) h1
  clear hA0 hsz
  refine (fnPushAsks_any a0 c0 l0 x1 y1 W hs0 hn0).mono fun e W' ⟨he, bel⟩ => ?_
  subst he
  exact ⟨_, rfl, _, _, _, [], _, [], hW', trodAll_mk1 (shut_bool Try.underlying4 _), (trodAll_cons_mk (Below.trod Try.laidOut (by kernel_rfl) (of_decide_eq_true (by kernel_rfl)) k0 bel lt0) (trodAll_cons_mk (Below.trod Try.laidOut (by kernel_rfl) (of_decide_eq_true (by kernel_rfl)) k1 bel lt1) trodAll_mk0)), rfl, bel.frame _, fun h => by cases h⟩

set_option maxRecDepth 100000 in
theorem fnPushAsks_lifted (os : Os) (started : os.Started) (H : Type) (enc : TypeId × Value → H) :
    ReturnsInHanded {} Try.checked os 5 .any (Rows.fnPushAsksSpec.pre6 enc Try.prog Try.f5 Rows.fnPushAsksRow.domain false) (Rows.fnPushAsksSpec.post enc Try.prog Try.f5 false true false false) := by
  refine returnsInHanded_of_change_sized (C := Try.checked) Try.own started (by kernel_rfl) Try.func5
    (ChangeSpec.witness6 (enc := enc) (C := Try.checked) false ⟨#[], #[.slice none 0 0, .agg #[.int .i64 0, .int .i64 0]], []⟩ 8 (by kernel_rfl) (by kernel_rfl) (by kernel_rfl) (by kernel_rfl)) ?_
  intro W base args ds gs before hval hW _ hsz _
  exact fnPushAsks_contract H enc W base args ds gs before hval hW hsz

theorem fnPushAsks_holds : Rows.FnPushAsksSaid :=
  OpenClaim.holds_of_wide 5 Try.f5 rfl rfl rfl rfl rfl rfl rfl ⟨rfl, rfl, rfl, rfl, rfl⟩ rfl rfl rfl rfl rfl (by kernel_rfl) Try.func5 (by kernel_rfl)
    (of_decide_eq_true (by kernel_rfl)) (by unfold Func.isWrapper; first | (rw [if_pos (by decide +kernel)]; kernel_rfl) | (rw [if_neg (by decide +kernel)]; exact ⟨rfl, rfl⟩))
    (fun os started H enc _ => fnPushAsks_lifted os started H enc)
#print axioms fnPushAsks_holds
end Go.Proofs.Ytpglibneflefgaa
