/- For every list of items, FnAnyPop returns true: the list after Pop and the popped item are the same elements. No condition. -/
import Derived.Test.YtdccdihkkfhadaaSameItems
import Derived.Test.YtdccdihkkfhadaaItemLaws
import Derived.Test.YtdccdihkkfhadaaWithItem
import Derived.Test.YtdccdihkkfhadaaItemPush
import Derived.Test.YtdccdihkkfhadaaArgs
import Derived.Deep.RegionHeld3
namespace Go.Proofs.Ytdccdihkkfhadaa
set_option linter.unusedVariables false
open Go.RowKit Go.ChangeShapes Go.WideShapes Go.ChangeAt

set_option maxHeartbeats 400000 in
theorem fnAnyPop_any (A : Option Addr) (c : Nat) (l : List (Int × Int)) (w : World) (hs : Sees w w.heap.size 2 A l.length (ics l)) (hn : l.length * 16 ≤ 140737488351232) :
    Calls Try.prog 12 #[.slice A l.length c] w fun e w' => e = .returned (.bool true) ∧ Below w.heap.size w w' := by
  have Sx := Lib.hid hs
  clear hs
  by_cases h0 : l.length = 0
  · have hz : ((l.length : Int) == 0) = true := by rw [beq_iff_eq]; omega
    clear h0
    have HB0 := Lib.hid (Below.refl w.heap.size w)
    go_enter Try.func12, Try.ntmps12
    go_wp2
    go_ret
    exact ⟨rfl, HB0.out⟩
  · have hz : ((l.length : Int) == 0) = false := by rw [beq_eq_false_iff_ne]; omega
    have hpos : 0 < l.length := by omega
    clear h0
    obtain ⟨⟨pk, pt⟩, hp⟩ : ∃ x : Int × Int, popTop klt (0, 0) l = x := ⟨_, rfl⟩
    have Hp := Lib.hid hp
    clear hp
    obtain ⟨Ly, hLy⟩ : ∃ Ly : List (Int × Int), popRest klt l ++ [(pk, pt)] = Ly := ⟨_, rfl⟩
    have HLy := Lib.hid hLy
    clear hLy
    have HB0 := Lib.hid (Below.refl w.heap.size w)
    go_enter Try.func12, Try.ntmps12
    go_wp2_with fail
    (with_reducible refine (toItems_any A c l w Sx.out (by omega)).mono ?_)
    rintro e w1 ⟨A1, c1, rfl, ho1, hb1⟩
    have Sx_1 := Lib.hid ((Sx.out.below hb1).more hb1.size)
    have HB1 := Lib.hid (HB0.out.trans (hb1.mono HB0.out.size))
    have Sa_1 := Lib.hid (Sees.of_own ho1)
    clear ho1
    clear hb1
    go_wp2_with fail
    (with_reducible refine (newand_eq (heapPop_any A1 c1 (l) w1 Sa_1.out (hpos) (by omega)) Hp.out).mono ?_)
    rintro e w2 ⟨A2, c2, rfl, ho2, hb2⟩
    have Sx_2 := Lib.hid ((Sx_1.out.below hb2).more hb2.size)
    have Sa_2 := Lib.hid ((Sa_1.out.below hb2).more hb2.size)
    have HB2 := Lib.hid (HB1.out.trans (hb2.mono HB1.out.size))
    have Sr_2 := Lib.hid (Sees.of_own ho2)
    clear ho2
    clear hb2
    go_wp2_with fail
    obtain ⟨W3, hW3⟩ : ∃ W : World, W = (w2.alloc (.cells #[.int .i64 pk, .int .i64 pt] 32)) := ⟨_, rfl⟩
    rw [← hW3]
    have hb3 : Below w2.heap.size w2 W3 := by rw [hW3]; exact ((Below.refl _ _).alloc (Nat.le_refl _) _)
    have hkv3 : Blk W3 (w2.heap.size) 32 #[.int .i64 pk, .int .i64 pt] := by rw [hW3]; exact Blk.new _ _ _
    have Sx_3 := Lib.hid ((Sx_2.out.below hb3).more hb3.size)
    have Sa_3 := Lib.hid ((Sa_2.out.below hb3).more hb3.size)
    have Sr_3 := Lib.hid ((Sr_2.out.below hb3).more hb3.size)
    have HB3 := Lib.hid (HB2.out.trans (hb3.mono HB2.out.size))
    have v0_3 : W3.cell? ⟨w2.heap.size, 0, none⟩ = some (.int .i64 pk) := hkv3.cell 0
    have v1_3 : W3.cell? ⟨w2.heap.size, 1, none⟩ = some (.int .i64 pt) := hkv3.cell 1
    have ltv_3 : w2.heap.size < W3.heap.size := hkv3.lt
    clear hkv3
    clear hW3 hb3
    go_wp2_with fail
    (with_reducible refine (new_eq (withItem_any A2 c2 (popRest klt l) pk pt W3 Sr_3.out (by rw [popRest_length]; omega)) HLy.out).mono ?_)
    rintro e w4 ⟨A4, c4, rfl, ho4, hb4⟩
    have Sx_4 := Lib.hid ((Sx_3.out.below hb4).more hb4.size)
    have Sa_4 := Lib.hid ((Sa_3.out.below hb4).more hb4.size)
    have Sr_4 := Lib.hid ((Sr_3.out.below hb4).more hb4.size)
    have v0_4 := (hb4.cell (p := ⟨w2.heap.size, 0, none⟩) ltv_3).trans v0_3
    have v1_4 := (hb4.cell (p := ⟨w2.heap.size, 1, none⟩) ltv_3).trans v1_3
    have ltv_4 := Nat.lt_of_lt_of_le ltv_3 hb4.size
    have HB4 := Lib.hid (HB3.out.trans (hb4.mono HB3.out.size))
    have Sy_4 := Lib.hid (Sees.of_own ho4)
    clear ho4
    clear hb4
    go_wp2_with fail
    (with_reducible refine (toItems_any A c l w4 Sx_4.out (by omega)).mono ?_)
    rintro e w5 ⟨A5, c5, rfl, ho5, hb5⟩
    have Sx_5 := Lib.hid ((Sx_4.out.below hb5).more hb5.size)
    have Sa_5 := Lib.hid ((Sa_4.out.below hb5).more hb5.size)
    have Sr_5 := Lib.hid ((Sr_4.out.below hb5).more hb5.size)
    have Sy_5 := Lib.hid ((Sy_4.out.below hb5).more hb5.size)
    have v0_5 := (hb5.cell (p := ⟨w2.heap.size, 0, none⟩) ltv_4).trans v0_4
    have v1_5 := (hb5.cell (p := ⟨w2.heap.size, 1, none⟩) ltv_4).trans v1_4
    have ltv_5 := Nat.lt_of_lt_of_le ltv_4 hb5.size
    have HB5 := Lib.hid (HB4.out.trans (hb5.mono HB4.out.size))
    have Sb_5 := Lib.hid (Sees.of_own ho5)
    clear ho5
    clear hb5
    go_wp2_with fail
    (with_reducible refine (calls_val (v' := .bool true) (sameElements_any A4 A5 c4 c5 Ly l w5 Sy_5.out Sb_5.out (by rw [← HLy.out]; simp only [List.length_append, List.length_cons, List.length_nil, popRest_length]; omega) (by omega)) (by rw [← HLy.out, ← Hp.out, sameB_perm (popRest_perm klt (0, 0) l hpos)])).mono ?_)
    rintro e w6 ⟨rfl, hb6⟩
    have Sx_6 := Lib.hid ((Sx_5.out.below hb6).more hb6.size)
    have Sa_6 := Lib.hid ((Sa_5.out.below hb6).more hb6.size)
    have Sr_6 := Lib.hid ((Sr_5.out.below hb6).more hb6.size)
    have Sy_6 := Lib.hid ((Sy_5.out.below hb6).more hb6.size)
    have Sb_6 := Lib.hid ((Sb_5.out.below hb6).more hb6.size)
    have v0_6 := (hb6.cell (p := ⟨w2.heap.size, 0, none⟩) ltv_5).trans v0_5
    have v1_6 := (hb6.cell (p := ⟨w2.heap.size, 1, none⟩) ltv_5).trans v1_5
    have ltv_6 := Nat.lt_of_lt_of_le ltv_5 hb6.size
    have HB6 := Lib.hid (HB5.out.trans (hb6.mono HB5.out.size))
    clear hb6
    go_wp2
    go_ret
    exact ⟨rfl, HB6.out⟩

set_option maxRecDepth 100000 in
theorem fnAnyPop_contract (H : Type) (enc : TypeId × Value → H) (W : World) (base : Nat) (args : Array Value) (ds gs : List (DataW H)) (before : List MemPlace)
    (hval : ∀ (j : Nat) t v, Try.f12.params[j]? = some t → args[j]? = some v → Value.okWide Try.prog W .any base t v)
    (hW : DataW.Whole enc Try.prog Try.f12.params.toList Rows.fnAnyPopSpec.vars false W args.toList ds gs before)
    (hsz : (DataW.weightsEach Try.prog (Try.f12.params.toList ++ Rows.fnAnyPopSpec.plain.varTypes Try.prog) (ds ++ gs)).all (· ≤ reachBytes) = true) :
    Calls Try.prog 12 args W fun e W' => ∃ v, e = .returned v ∧ Rows.fnAnyPopSpec.post enc Try.prog Try.f12 false true false false W args v W' := by
  have hW' := hW
  obtain ⟨p, q, hA0, hV, rfl, hfz, hnd⟩ := hW
  have hA : DataW.TrodAll enc Try.prog W 0 (fun _ => true) true Try.f12.params.toList args.toList ds p := hA0
  rw [Try.params12] at hA hval hsz
  obtain ⟨v0, vs0, d0, ds0, p0, q0, hargs, rfl, rfl, h0, r0⟩ := trodAll_cons hA
  obtain ⟨rfl, rfl, rfl⟩ := trodAll_nil r0
  obtain rfl : args = #[v0] := by cases args; simp_all
  obtain ⟨rfl, rfl⟩ := trodVars_none hV
  have k0 := h0
  have lt0 : ∀ x ∈ p0, x.block < W.heap.size := by obtain ⟨m, hm⟩ := k0; exact DataW.trod_lt m _ _ _ hm
  obtain ⟨a0, len0, c0, rfl⟩ := okWide_slice Try.underlying22 (hval 0 22 v0 rfl rfl)
  obtain ⟨l0, rfl, hs0, hd0⟩ := open_items Try.underlying22 Try.underlying30 (by kernel_rfl) rfl rfl (by kernel_rfl) (by kernel_rfl) Try.underlying3 Try.underlying3 h0
  have hn0 := items_reach hsz (j := 0) rfl rfl Try.underlying22 (by kernel_rfl) hd0
  clear hA0 hsz
  refine (fnAnyPop_any a0 c0 l0 W hs0 hn0).mono fun e W' ⟨he, bel⟩ => ?_
  subst he
  exact ⟨_, rfl, _, _, _, [], _, [], hW', trodAll_mk1 (shut_bool Try.underlying4 _), (trodAll_cons_mk (Below.trod Try.laidOut (by kernel_rfl) (of_decide_eq_true (by kernel_rfl)) k0 bel lt0) trodAll_mk0), rfl, bel.frame _, fun h => by cases h⟩

set_option maxRecDepth 100000 in
theorem fnAnyPop_lifted (os : Os) (started : os.Started) (H : Type) (enc : TypeId × Value → H) :
    ReturnsInHanded {} Try.checked os 12 .any (Rows.fnAnyPopSpec.pre6 enc Try.prog Try.f12 Rows.fnAnyPopRow.domain false) (Rows.fnAnyPopSpec.post enc Try.prog Try.f12 false true false false) := by
  refine returnsInHanded_of_change_sized (C := Try.checked) Try.own started (by kernel_rfl) Try.func12
    (ChangeSpec.witness6 (enc := enc) (C := Try.checked) false ⟨#[], #[.slice none 0 0], []⟩ 8 (by kernel_rfl) (by kernel_rfl) (by kernel_rfl) (by kernel_rfl)) ?_
  intro W base args ds gs before hval hW _ hsz _
  exact fnAnyPop_contract H enc W base args ds gs before hval hW hsz

theorem fnAnyPop_holds : Rows.FnAnyPopSaid :=
  OpenClaim.holds_of_wide 12 Try.f12 rfl rfl rfl rfl rfl rfl rfl ⟨rfl, rfl, rfl, rfl, rfl⟩ rfl rfl rfl rfl rfl (by kernel_rfl) Try.func12 (by kernel_rfl)
    (of_decide_eq_true (by kernel_rfl)) (by unfold Func.isWrapper; first | (rw [if_pos (by decide +kernel)]; kernel_rfl) | (rw [if_neg (by decide +kernel)]; exact ⟨rfl, rfl⟩))
    (fun os started H enc _ => fnAnyPop_lifted os started H enc)
#print axioms fnAnyPop_holds
end Go.Proofs.Ytdccdihkkfhadaa
