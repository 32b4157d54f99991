/- For every list of items and every item, FnAnyPush returns true: Push makes a list with one element more. No condition. -/
import Derived.Test.YtdccdihkkfhadaaSameItems
import Derived.Test.YtdccdihkkfhadaaItemLaws
import Derived.Test.YtdccdihkkfhadaaWithItem
import Derived.Test.YtdccdihkkfhadaaItemPush
import Derived.Test.YtdccdihkkfhadaaArgs
import Derived.Deep.RegionHeld3
namespace Go.Proofs.Ytdccdihkkfhadaa
set_option linter.unusedVariables false
open Go.RowKit Go.ChangeShapes Go.WideShapes Go.ChangeAt

set_option maxHeartbeats 800000 in
theorem fnAnyPush_any (A : Option Addr) (c : Nat) (l : List (Int × Int)) (k t : Int) (w : World) (hs : Sees w w.heap.size 2 A l.length (ics l)) (hn : l.length * 16 ≤ 140737488351232) :
    Calls Try.prog 7 #[.slice A l.length c, .agg #[.int .i64 k, .int .i64 t]] w fun e w' => e = .returned (.bool true) ∧ Below w.heap.size w w' := by
  have Sx := Lib.hid hs
  clear hs
  have HB0 := Lib.hid (Below.refl w.heap.size w)
  go_enter Try.func7, Try.ntmps7
  go_wp2_with fail
  obtain ⟨Ly, hLy⟩ : ∃ Ly : List (Int × Int), l ++ [(k, t)] = Ly := ⟨_, rfl⟩
  have HLy := Lib.hid hLy
  clear hLy
  obtain ⟨W1, hW1⟩ : ∃ W : World, W = ((w.alloc (.cells #[.int .i64 k, .int .i64 t] 30)).alloc (.cells #[.int .i64 k, .int .i64 t] 32)) := ⟨_, rfl⟩
  rw [← hW1]
  have hb1 : Below w.heap.size w W1 := by rw [hW1]; exact (((Below.refl _ _).alloc (Nat.le_refl _) _).alloc (by simp) _)
  have hkv1 : Blk W1 (w.heap.size + 1) 32 #[.int .i64 k, .int .i64 t] := by rw [hW1]; have := Blk.new (w.alloc (.cells #[.int .i64 k, .int .i64 t] 30)) 32 #[.int .i64 k, .int .i64 t]; simpa only [size_alloc_] using this
  have Sx_1 := Lib.hid ((Sx.out.below hb1).more hb1.size)
  have HB1 := Lib.hid (HB0.out.trans (hb1.mono HB0.out.size))
  have v0_1 : W1.cell? ⟨w.heap.size + 1, 0, none⟩ = some (.int .i64 k) := hkv1.cell 0
  have v1_1 : W1.cell? ⟨w.heap.size + 1, 1, none⟩ = some (.int .i64 t) := hkv1.cell 1
  have ltv_1 : w.heap.size + 1 < W1.heap.size := hkv1.lt
  clear hkv1
  clear hW1 hb1
  have Sx_1d := Lib.hid (Sees.drewT Sx_1.out)
  have HB1d := Lib.hid HB1.out.drew
  go_region_held3 (fun w' => w'.cell? ⟨w.heap.size + 1, 0, none⟩ = some (.int .i64 k) ∧ w'.cell? ⟨w.heap.size + 1, 1, none⟩ = some (.int .i64 t)) (first | go_keep | (exact ⟨by assumption, by assumption⟩))
    (first
      | (go_at_call 18; (with_reducible refine (calls_val (v' := .bool true) (sameElements_any A3 A5 c3 c5 (pushF klt l (k, t)) (Ly) w5 Sr_5.out Sy_5.out (by simp only [pushF_length]; omega) (by rw [← HLy.out]; simp only [List.length_append, List.length_cons, List.length_nil]; omega)) (by rw [← HLy.out, sameB_perm (pushF_perm klt l (k, t))])).mono ?_); rintro e w6 ⟨rfl, hb6⟩; have Sx_6 := Lib.hid ((Sx_5.out.below hb6).more hb6.size); have Sa_6 := Lib.hid ((Sa_5.out.below hb6).more hb6.size); have Sr_6 := Lib.hid ((Sr_5.out.below hb6).more hb6.size); have Sb_6 := Lib.hid ((Sb_5.out.below hb6).more hb6.size); have Sy_6 := Lib.hid ((Sy_5.out.below hb6).more hb6.size); have v0_6 := (hb6.cell (p := ⟨w.heap.size + 1, 0, none⟩) ltv_5).trans v0_5; have v1_6 := (hb6.cell (p := ⟨w.heap.size + 1, 1, none⟩) ltv_5).trans v1_5; have ltv_6 := Nat.lt_of_lt_of_le ltv_5 hb6.size; have HB6 := Lib.hid (HB5.out.trans (hb6.mono HB5.out.size)); clear hb6)
      | (go_at_call 22; (with_reducible refine (new_eq (withItem_any A4 c4 (l) k t w4 Sb_4.out (by omega)) HLy.out).mono ?_); rintro e w5 ⟨A5, c5, rfl, ho5, hb5⟩; have Sx_5 := Lib.hid ((Sx_4.out.below hb5).more hb5.size); have Sa_5 := Lib.hid ((Sa_4.out.below hb5).more hb5.size); have Sr_5 := Lib.hid ((Sr_4.out.below hb5).more hb5.size); have Sb_5 := Lib.hid ((Sb_4.out.below hb5).more hb5.size); have v0_5 := (hb5.cell (p := ⟨w.heap.size + 1, 0, none⟩) ltv_4).trans v0_4; have v1_5 := (hb5.cell (p := ⟨w.heap.size + 1, 1, none⟩) ltv_4).trans v1_4; have ltv_5 := Nat.lt_of_lt_of_le ltv_4 hb5.size; have HB5 := Lib.hid (HB4.out.trans (hb5.mono HB4.out.size)); have Sy_5 := Lib.hid (Sees.of_own ho5); clear ho5; clear hb5)
      | (go_at_call 16; (with_reducible refine (toItems_any A c l w3 Sx_3.out (by omega)).mono ?_); rintro e w4 ⟨A4, c4, rfl, ho4, hb4⟩; have Sx_4 := Lib.hid ((Sx_3.out.below hb4).more hb4.size); have Sa_4 := Lib.hid ((Sa_3.out.below hb4).more hb4.size); have Sr_4 := Lib.hid ((Sr_3.out.below hb4).more hb4.size); have v0_4 := (hb4.cell (p := ⟨w.heap.size + 1, 0, none⟩) ltv_3).trans v0_3; have v1_4 := (hb4.cell (p := ⟨w.heap.size + 1, 1, none⟩) ltv_3).trans v1_3; have ltv_4 := Nat.lt_of_lt_of_le ltv_3 hb4.size; have HB4 := Lib.hid (HB3.out.trans (hb4.mono HB3.out.size)); have Sb_4 := Lib.hid (Sees.of_own ho4); clear ho4; clear hb4)
      | (go_at_call 20; (with_reducible refine (heapPush_any A2 c2 (l) k t w2 Sa_2.out (by omega)).mono ?_); rintro e w3 ⟨A3, c3, rfl, ho3, hb3⟩; have Sx_3 := Lib.hid ((Sx_2.out.below hb3).more hb3.size); have Sa_3 := Lib.hid ((Sa_2.out.below hb3).more hb3.size); have v0_3 := (hb3.cell (p := ⟨w.heap.size + 1, 0, none⟩) ltv_2).trans v0_2; have v1_3 := (hb3.cell (p := ⟨w.heap.size + 1, 1, none⟩) ltv_2).trans v1_2; have ltv_3 := Nat.lt_of_lt_of_le ltv_2 hb3.size; have HB3 := Lib.hid (HB2.out.trans (hb3.mono HB2.out.size)); have Sr_3 := Lib.hid (Sees.of_own ho3); clear ho3; clear hb3)
      | (go_at_call 16; (with_reducible refine (toItems_any A c l W1.drew Sx_1d.out (by omega)).mono ?_); rintro e w2 ⟨A2, c2, rfl, ho2, hb2⟩; have Sx_2 := Lib.hid ((Sx_1d.out.below hb2).more hb2.size); have v0_2 := (hb2.cell (p := ⟨w.heap.size + 1, 0, none⟩) ltv_1).trans v0_1; have v1_2 := (hb2.cell (p := ⟨w.heap.size + 1, 1, none⟩) ltv_1).trans v1_1; have ltv_2 := Nat.lt_of_lt_of_le ltv_1 hb2.size; have HB2 := Lib.hid (HB1d.out.trans (hb2.mono HB1d.out.size)); have Sa_2 := Lib.hid (Sees.of_own ho2); clear ho2; clear hb2))
  go_wp2
  go_ret
  exact ⟨rfl, HB6.out⟩

set_option maxRecDepth 100000 in
theorem fnAnyPush_contract (H : Type) (enc : TypeId × Value → H) (W : World) (base : Nat) (args : Array Value) (ds gs : List (DataW H)) (before : List MemPlace)
    (hval : ∀ (j : Nat) t v, Try.f7.params[j]? = some t → args[j]? = some v → Value.okWide Try.prog W .any base t v)
    (hW : DataW.Whole enc Try.prog Try.f7.params.toList Rows.fnAnyPushSpec.vars false W args.toList ds gs before)
    (hsz : (DataW.weightsEach Try.prog (Try.f7.params.toList ++ Rows.fnAnyPushSpec.plain.varTypes Try.prog) (ds ++ gs)).all (· ≤ reachBytes) = true) :
    Calls Try.prog 7 args W fun e W' => ∃ v, e = .returned v ∧ Rows.fnAnyPushSpec.post enc Try.prog Try.f7 false true false false W args v W' := by
  have hW' := hW
  obtain ⟨p, q, hA0, hV, rfl, hfz, hnd⟩ := hW
  have hA : DataW.TrodAll enc Try.prog W 0 (fun _ => true) true Try.f7.params.toList args.toList ds p := hA0
  rw [Try.params7] at hA hval hsz
  obtain ⟨v0, vs0, d0, ds0, p0, q0, hargs, rfl, rfl, h0, r0⟩ := trodAll_cons hA
  obtain ⟨v1, vs1, d1, ds1, p1, q1, rfl, rfl, rfl, h1, r1⟩ := trodAll_cons r0
  obtain ⟨rfl, rfl, rfl⟩ := trodAll_nil r1
  obtain rfl : args = #[v0, v1] := by cases args; simp_all
  obtain ⟨rfl, rfl⟩ := trodVars_none hV
  have k0 := h0
  have lt0 : ∀ x ∈ p0, x.block < W.heap.size := by obtain ⟨m, hm⟩ := k0; exact DataW.trod_lt m _ _ _ hm
  have k1 := h1
  have lt1 : ∀ x ∈ p1, x.block < W.heap.size := by obtain ⟨m, hm⟩ := k1; exact DataW.trod_lt m _ _ _ hm
  obtain ⟨a0, len0, c0, rfl⟩ := okWide_slice Try.underlying22 (hval 0 22 v0 rfl rfl)
  obtain ⟨l0, rfl, hs0, hd0⟩ := open_items Try.underlying22 Try.underlying30 (by kernel_rfl) rfl rfl (by kernel_rfl) (by kernel_rfl) Try.underlying3 Try.underlying3 h0
  have hn0 := items_reach hsz (j := 0) rfl rfl Try.underlying22 (by kernel_rfl) hd0
  obtain ⟨x1, y1, rfl, hd1⟩ := open_item Try.underlying30 (by kernel_rfl) (by kernel_rfl) Try.underlying3 Try.underlying3 (hval 1 30 v1 rfl rfl) h1
  clear hA0 hsz
  refine (fnAnyPush_any a0 c0 l0 x1 y1 W hs0 hn0).mono fun e W' ⟨he, bel⟩ => ?_
  subst he
  exact ⟨_, rfl, _, _, _, [], _, [], hW', trodAll_mk1 (shut_bool Try.underlying4 _), (trodAll_cons_mk (Below.trod Try.laidOut (by kernel_rfl) (of_decide_eq_true (by kernel_rfl)) k0 bel lt0) (trodAll_cons_mk (Below.trod Try.laidOut (by kernel_rfl) (of_decide_eq_true (by kernel_rfl)) k1 bel lt1) trodAll_mk0)), rfl, bel.frame _, fun h => by cases h⟩

set_option maxRecDepth 100000 in
theorem fnAnyPush_lifted (os : Os) (started : os.Started) (H : Type) (enc : TypeId × Value → H) :
    ReturnsInHanded {} Try.checked os 7 .any (Rows.fnAnyPushSpec.pre6 enc Try.prog Try.f7 Rows.fnAnyPushRow.domain false) (Rows.fnAnyPushSpec.post enc Try.prog Try.f7 false true false false) := by
  refine returnsInHanded_of_change_sized (C := Try.checked) Try.own started (by kernel_rfl) Try.func7
    (ChangeSpec.witness6 (enc := enc) (C := Try.checked) false ⟨#[], #[.slice none 0 0, .agg #[.int .i64 0, .int .i64 0]], []⟩ 8 (by kernel_rfl) (by kernel_rfl) (by kernel_rfl) (by kernel_rfl)) ?_
  intro W base args ds gs before hval hW _ hsz _
  exact fnAnyPush_contract H enc W base args ds gs before hval hW hsz

theorem fnAnyPush_holds : Rows.FnAnyPushSaid :=
  OpenClaim.holds_of_wide 7 Try.f7 rfl rfl rfl rfl rfl rfl rfl ⟨rfl, rfl, rfl, rfl, rfl⟩ rfl rfl rfl rfl rfl (by kernel_rfl) Try.func7 (by kernel_rfl)
    (of_decide_eq_true (by kernel_rfl)) (by unfold Func.isWrapper; first | (rw [if_pos (by decide +kernel)]; kernel_rfl) | (rw [if_neg (by decide +kernel)]; exact ⟨rfl, rfl⟩))
    (fun os started H enc _ => fnAnyPush_lifted os started H enc)
#print axioms fnAnyPush_holds
end Go.Proofs.Ytdccdihkkfhadaa
