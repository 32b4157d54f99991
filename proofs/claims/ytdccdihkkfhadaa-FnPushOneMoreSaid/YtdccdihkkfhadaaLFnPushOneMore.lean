/- For every list of items and every item, FnPushOneMore returns true: one element more behind others that are pushed one by one is a Push onto what these lead to. No condition. -/
import Derived.Test.YtdccdihkkfhadaaEqItems
import Derived.Test.YtdccdihkkfhadaaWithItem
import Derived.Test.YtdccdihkkfhadaaPushItems
import Derived.Test.YtdccdihkkfhadaaArgs
import Derived.Deep.RegionHeld3
namespace Go.Proofs.Ytdccdihkkfhadaa
set_option linter.unusedVariables false
open Go.RowKit Go.ChangeShapes Go.WideShapes Go.ChangeAt

set_option maxHeartbeats 800000 in
theorem fnPushOneMore_any (A : Option Addr) (c : Nat) (l : List (Int × Int)) (k t : Int) (w : World) (hs : Sees w w.heap.size 2 A l.length (ics l)) (hn : l.length * 16 ≤ 140737488351232) :
    Calls Try.prog 11 #[.slice A l.length c, .agg #[.int .i64 k, .int .i64 t]] w fun e w' => e = .returned (.bool true) ∧ Below w.heap.size w w' := by
  have Sx := Lib.hid hs
  clear hs
  have HB0 := Lib.hid (Below.refl w.heap.size w)
  go_enter Try.func11, Try.ntmps11
  go_wp2_with fail
  obtain ⟨Ly, hLy⟩ : ∃ Ly : List (Int × Int), l ++ [(k, t)] = Ly := ⟨_, rfl⟩
  have HLy := Lib.hid hLy
  clear hLy
  obtain ⟨W1, hW1⟩ : ∃ W : World, W = ((w.alloc (.cells #[.int .i64 k, .int .i64 t] 30)).alloc (.cells #[.int .i64 k, .int .i64 t] 32)) := ⟨_, rfl⟩
  rw [← hW1]
  have hb1 : Below w.heap.size w W1 := by rw [hW1]; exact (((Below.refl _ _).alloc (Nat.le_refl _) _).alloc (by simp) _)
  have hkv1 : Blk W1 (w.heap.size + 1) 32 #[.int .i64 k, .int .i64 t] := by rw [hW1]; have := Blk.new (w.alloc (.cells #[.int .i64 k, .int .i64 t] 30)) 32 #[.int .i64 k, .int .i64 t]; simpa only [size_alloc_] using this
  have Sx_1 := Lib.hid ((Sx.out.below hb1).more hb1.size)
  have HB1 := Lib.hid (HB0.out.trans (hb1.mono HB0.out.size))
  have v0_1 : W1.cell? ⟨w.heap.size + 1, 0, none⟩ = some (.int .i64 k) := hkv1.cell 0
  have v1_1 : W1.cell? ⟨w.heap.size + 1, 1, none⟩ = some (.int .i64 t) := hkv1.cell 1
  have ltv_1 : w.heap.size + 1 < W1.heap.size := hkv1.lt
  clear hkv1
  clear hW1 hb1
  have Sx_1d := Lib.hid (Sees.drewT Sx_1.out)
  have HB1d := Lib.hid HB1.out.drew
  go_region_held3 (fun w' => w'.cell? ⟨w.heap.size + 1, 0, none⟩ = some (.int .i64 k) ∧ w'.cell? ⟨w.heap.size + 1, 1, none⟩ = some (.int .i64 t)) (first | go_keep | (exact ⟨by assumption, by assumption⟩))
    (first
      | (go_at_call 25; (with_reducible refine (pushItems_any A3 c3 (Ly) w3 Sb_3.out (by rw [← HLy.out]; simp only [List.length_append, List.length_cons, List.length_nil]; omega)).mono ?_); rintro e w4 ⟨A4, c4, rfl, ho4, hb4⟩; have Sx_4 := Lib.hid ((Sx_3.out.below hb4).more hb4.size); have Sa_4 := Lib.hid ((Sa_3.out.below hb4).more hb4.size); have Sb_4 := Lib.hid ((Sb_3.out.below hb4).more hb4.size); have v0_4 := (hb4.cell (p := ⟨w.heap.size + 1, 0, none⟩) ltv_3).trans v0_3; have v1_4 := (hb4.cell (p := ⟨w.heap.size + 1, 1, none⟩) ltv_3).trans v1_3; have ltv_4 := Nat.lt_of_lt_of_le ltv_3 hb4.size; have HB4 := Lib.hid (HB3.out.trans (hb4.mono HB3.out.size)); have Sr_4 := Lib.hid (Sees.of_own ho4); clear ho4; clear hb4)
      | (go_at_call 22; (with_reducible refine (new_eq (withItem_any A2 c2 (l) k t w2 Sa_2.out (by omega)) HLy.out).mono ?_); rintro e w3 ⟨A3, c3, rfl, ho3, hb3⟩; have Sx_3 := Lib.hid ((Sx_2.out.below hb3).more hb3.size); have Sa_3 := Lib.hid ((Sa_2.out.below hb3).more hb3.size); have v0_3 := (hb3.cell (p := ⟨w.heap.size + 1, 0, none⟩) ltv_2).trans v0_2; have v1_3 := (hb3.cell (p := ⟨w.heap.size + 1, 1, none⟩) ltv_2).trans v1_2; have ltv_3 := Nat.lt_of_lt_of_le ltv_2 hb3.size; have HB3 := Lib.hid (HB2.out.trans (hb3.mono HB2.out.size)); have Sb_3 := Lib.hid (Sees.of_own ho3); clear ho3; clear hb3)
      | (go_at_call 16; (with_reducible refine (toItems_any A c l W1.drew Sx_1d.out (by omega)).mono ?_); rintro e w2 ⟨A2, c2, rfl, ho2, hb2⟩; have Sx_2 := Lib.hid ((Sx_1d.out.below hb2).more hb2.size); have v0_2 := (hb2.cell (p := ⟨w.heap.size + 1, 0, none⟩) ltv_1).trans v0_1; have v1_2 := (hb2.cell (p := ⟨w.heap.size + 1, 1, none⟩) ltv_1).trans v1_1; have ltv_2 := Nat.lt_of_lt_of_le ltv_1 hb2.size; have HB2 := Lib.hid (HB1d.out.trans (hb2.mono HB1d.out.size)); have Sa_2 := Lib.hid (Sees.of_own ho2); clear ho2; clear hb2))
  go_wp2_with fail
  have Sx_4d := Lib.hid (Sees.drewT Sx_4.out)
  have Sa_4d := Lib.hid (Sees.drewT Sa_4.out)
  have Sb_4d := Lib.hid (Sees.drewT Sb_4.out)
  have Sr_4d := Lib.hid (Sees.drewT Sr_4.out)
  have HB4d := Lib.hid HB4.out.drew
  go_region_held3 (fun w' => w'.cell? ⟨w.heap.size + 1, 0, none⟩ = some (.int .i64 k) ∧ w'.cell? ⟨w.heap.size + 1, 1, none⟩ = some (.int .i64 t)) (first | go_keep | (exact ⟨by assumption, by assumption⟩))
    (first
      | (go_at_call 20; (with_reducible refine (heapPush_any A6 c6 (pushAll klt l) k t w6 Sq_6.out (by simp only [pushAll_length]; omega)).mono ?_); rintro e w7 ⟨A7, c7, rfl, ho7, hb7⟩; have Sx_7 := Lib.hid ((Sx_6.out.below hb7).more hb7.size); have Sa_7 := Lib.hid ((Sa_6.out.below hb7).more hb7.size); have Sb_7 := Lib.hid ((Sb_6.out.below hb7).more hb7.size); have Sr_7 := Lib.hid ((Sr_6.out.below hb7).more hb7.size); have Sd_7 := Lib.hid ((Sd_6.out.below hb7).more hb7.size); have Sq_7 := Lib.hid ((Sq_6.out.below hb7).more hb7.size); have v0_7 := (hb7.cell (p := ⟨w.heap.size + 1, 0, none⟩) ltv_6).trans v0_6; have v1_7 := (hb7.cell (p := ⟨w.heap.size + 1, 1, none⟩) ltv_6).trans v1_6; have ltv_7 := Nat.lt_of_lt_of_le ltv_6 hb7.size; have HB7 := Lib.hid (HB6.out.trans (hb7.mono HB6.out.size)); have Sy_7 := Lib.hid (Sees.of_own ho7); clear ho7; clear hb7)
      | (go_at_call 25; (with_reducible refine (pushItems_any A5 c5 (l) w5 Sd_5.out (by omega)).mono ?_); rintro e w6 ⟨A6, c6, rfl, ho6, hb6⟩; have Sx_6 := Lib.hid ((Sx_5.out.below hb6).more hb6.size); have Sa_6 := Lib.hid ((Sa_5.out.below hb6).more hb6.size); have Sb_6 := Lib.hid ((Sb_5.out.below hb6).more hb6.size); have Sr_6 := Lib.hid ((Sr_5.out.below hb6).more hb6.size); have Sd_6 := Lib.hid ((Sd_5.out.below hb6).more hb6.size); have v0_6 := (hb6.cell (p := ⟨w.heap.size + 1, 0, none⟩) ltv_5).trans v0_5; have v1_6 := (hb6.cell (p := ⟨w.heap.size + 1, 1, none⟩) ltv_5).trans v1_5; have ltv_6 := Nat.lt_of_lt_of_le ltv_5 hb6.size; have HB6 := Lib.hid (HB5.out.trans (hb6.mono HB5.out.size)); have Sq_6 := Lib.hid (Sees.of_own ho6); clear ho6; clear hb6)
      | (go_at_call 16; (with_reducible refine (toItems_any A c l w4.drew Sx_4d.out (by omega)).mono ?_); rintro e w5 ⟨A5, c5, rfl, ho5, hb5⟩; have Sx_5 := Lib.hid ((Sx_4d.out.below hb5).more hb5.size); have Sa_5 := Lib.hid ((Sa_4d.out.below hb5).more hb5.size); have Sb_5 := Lib.hid ((Sb_4d.out.below hb5).more hb5.size); have Sr_5 := Lib.hid ((Sr_4d.out.below hb5).more hb5.size); have v0_5 := (hb5.cell (p := ⟨w.heap.size + 1, 0, none⟩) ltv_4).trans v0_4; have v1_5 := (hb5.cell (p := ⟨w.heap.size + 1, 1, none⟩) ltv_4).trans v1_4; have ltv_5 := Nat.lt_of_lt_of_le ltv_4 hb5.size; have HB5 := Lib.hid (HB4d.out.trans (hb5.mono HB4d.out.size)); have Sd_5 := Lib.hid (Sees.of_own ho5); clear ho5; clear hb5))
  have hlen : (((pushAll klt Ly).length : Int) == (l.length : Int) + 1) = true := by rw [pushAll_length, ← HLy.out]; simp
  go_wp2_with fail
  (with_reducible refine (calls_val (v' := .bool true) (quiet_below (sameItems_any A4 A7 c4 c7 (pushAll klt Ly) (pushF klt (pushAll klt l) (k, t)) w7 _ _ Sr_7.out Sy_7.out (by rw [pushAll_length]; rw [← HLy.out]; simp only [List.length_append, List.length_cons, List.length_nil]; omega) (by simp only [pushAll_length, pushF_length]; omega))) (by rw [← HLy.out, decide_eq_true (pushAll_snoc klt l (k, t))])).mono ?_)
  rintro e w8 ⟨rfl, hb8⟩
  have Sx_8 := Lib.hid ((Sx_7.out.below hb8).more hb8.size)
  have Sa_8 := Lib.hid ((Sa_7.out.below hb8).more hb8.size)
  have Sb_8 := Lib.hid ((Sb_7.out.below hb8).more hb8.size)
  have Sr_8 := Lib.hid ((Sr_7.out.below hb8).more hb8.size)
  have Sd_8 := Lib.hid ((Sd_7.out.below hb8).more hb8.size)
  have Sq_8 := Lib.hid ((Sq_7.out.below hb8).more hb8.size)
  have Sy_8 := Lib.hid ((Sy_7.out.below hb8).more hb8.size)
  have v0_8 := (hb8.cell (p := ⟨w.heap.size + 1, 0, none⟩) ltv_7).trans v0_7
  have v1_8 := (hb8.cell (p := ⟨w.heap.size + 1, 1, none⟩) ltv_7).trans v1_7
  have ltv_8 := Nat.lt_of_lt_of_le ltv_7 hb8.size
  have HB8 := Lib.hid (HB7.out.trans (hb8.mono HB7.out.size))
  clear hb8
  go_wp2
  go_ret
  exact ⟨rfl, HB8.out⟩

set_option maxRecDepth 100000 in
theorem fnPushOneMore_contract (H : Type) (enc : TypeId × Value → H) (W : World) (base : Nat) (args : Array Value) (ds gs : List (DataW H)) (before : List MemPlace)
    (hval : ∀ (j : Nat) t v, Try.f11.params[j]? = some t → args[j]? = some v → Value.okWide Try.prog W .any base t v)
    (hW : DataW.Whole enc Try.prog Try.f11.params.toList Rows.fnPushOneMoreSpec.vars false W args.toList ds gs before)
    (hsz : (DataW.weightsEach Try.prog (Try.f11.params.toList ++ Rows.fnPushOneMoreSpec.plain.varTypes Try.prog) (ds ++ gs)).all (· ≤ reachBytes) = true) :
    Calls Try.prog 11 args W fun e W' => ∃ v, e = .returned v ∧ Rows.fnPushOneMoreSpec.post enc Try.prog Try.f11 false true false false W args v W' := by
  have hW' := hW
  obtain ⟨p, q, hA0, hV, rfl, hfz, hnd⟩ := hW
  have hA : DataW.TrodAll enc Try.prog W 0 (fun _ => true) true Try.f11.params.toList args.toList ds p := hA0
  rw [Try.params11] at hA hval hsz
  obtain ⟨v0, vs0, d0, ds0, p0, q0, hargs, rfl, rfl, h0, r0⟩ := trodAll_cons hA
  obtain ⟨v1, vs1, d1, ds1, p1, q1, rfl, rfl, rfl, h1, r1⟩ := trodAll_cons r0
  obtain ⟨rfl, rfl, rfl⟩ := trodAll_nil r1
  obtain rfl : args = #[v0, v1] := by cases args; simp_all
  obtain ⟨rfl, rfl⟩ := trodVars_none hV
  have k0 := h0
  have lt0 : ∀ x ∈ p0, x.block < W.heap.size := by obtain ⟨m, hm⟩ := k0; exact DataW.trod_lt m _ _ _ hm
  have k1 := h1
  have lt1 : ∀ x ∈ p1, x.block < W.heap.size := by obtain ⟨m, hm⟩ := k1; exact DataW.trod_lt m _ _ _ hm
  obtain ⟨a0, len0, c0, rfl⟩ := okWide_slice Try.underlying22 (hval 0 22 v0 rfl rfl)
  obtain ⟨l0, rfl, hs0, hd0⟩ := open_items Try.underlying22 Try.underlying30 (by kernel_rfl) rfl rfl (by kernel_rfl) (by kernel_rfl) Try.underlying3 Try.underlying3 h0
  have hn0 := items_reach hsz (j := 0) rfl rfl Try.underlying22 (by kernel_rfl) hd0
  obtain ⟨x1, y1, rfl, hd1⟩ := open_item Try.underlying30 (by kernel_rfl) (by kernel_rfl) Try.underlying3 Try.underlying3 (hval 1 30 v1 rfl rfl) h1
  clear hA0 hsz
  refine (fnPushOneMore_any a0 c0 l0 x1 y1 W hs0 hn0).mono fun e W' ⟨he, bel⟩ => ?_
  subst he
  exact ⟨_, rfl, _, _, _, [], _, [], hW', trodAll_mk1 (shut_bool Try.underlying4 _), (trodAll_cons_mk (Below.trod Try.laidOut (by kernel_rfl) (of_decide_eq_true (by kernel_rfl)) k0 bel lt0) (trodAll_cons_mk (Below.trod Try.laidOut (by kernel_rfl) (of_decide_eq_true (by kernel_rfl)) k1 bel lt1) trodAll_mk0)), rfl, bel.frame _, fun h => by cases h⟩

set_option maxRecDepth 100000 in
theorem fnPushOneMore_lifted (os : Os) (started : os.Started) (H : Type) (enc : TypeId × Value → H) :
    ReturnsInHanded {} Try.checked os 11 .any (Rows.fnPushOneMoreSpec.pre6 enc Try.prog Try.f11 Rows.fnPushOneMoreRow.domain false) (Rows.fnPushOneMoreSpec.post enc Try.prog Try.f11 false true false false) := by
  refine returnsInHanded_of_change_sized (C := Try.checked) Try.own started (by kernel_rfl) Try.func11
    (ChangeSpec.witness6 (enc := enc) (C := Try.checked) false ⟨#[], #[.slice none 0 0, .agg #[.int .i64 0, .int .i64 0]], []⟩ 8 (by kernel_rfl) (by kernel_rfl) (by kernel_rfl) (by kernel_rfl)) ?_
  intro W base args ds gs before hval hW _ hsz _
  exact fnPushOneMore_contract H enc W base args ds gs before hval hW hsz

theorem fnPushOneMore_holds : Rows.FnPushOneMoreSaid :=
  OpenClaim.holds_of_wide 11 Try.f11 rfl rfl rfl rfl rfl rfl rfl ⟨rfl, rfl, rfl, rfl, rfl⟩ rfl rfl rfl rfl rfl (by kernel_rfl) Try.func11 (by kernel_rfl)
    (of_decide_eq_true (by kernel_rfl)) (by unfold Func.isWrapper; first | (rw [if_pos (by decide +kernel)]; kernel_rfl) | (rw [if_neg (by decide +kernel)]; exact ⟨rfl, rfl⟩))
    (fun os started H enc _ => fnPushOneMore_lifted os started H enc)
#print axioms fnPushOneMore_holds
end Go.Proofs.Ytdccdihkkfhadaa
