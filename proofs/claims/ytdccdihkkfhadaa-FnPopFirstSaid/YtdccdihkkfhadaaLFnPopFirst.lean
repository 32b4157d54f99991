/- For every list of items, FnPopFirst returns true: Pop returns the element with the index 0 of a list with heap order. No condition. -/
import Derived.Test.YtdccdihkkfhadaaItemLaws
import Derived.Test.YtdccdihkkfhadaaItemPush
import Derived.Test.YtdccdihkkfhadaaArgs
import Derived.Deep.RegionHeld3
namespace Go.Proofs.Ytdccdihkkfhadaa
set_option linter.unusedVariables false
open Go.RowKit Go.ChangeShapes Go.WideShapes Go.ChangeAt

set_option maxHeartbeats 400000 in
theorem fnPopFirst_any (A : Option Addr) (c : Nat) (l : List (Int × Int)) (w : World) (hs : Sees w w.heap.size 2 A l.length (ics l)) (hn : l.length * 16 ≤ 140737488351232) :
    Calls Try.prog 14 #[.slice A l.length c] w fun e w' => e = .returned (.bool true) ∧ Below w.heap.size w w' := by
  have Sx := Lib.hid hs
  clear hs
  by_cases h0 : l.length = 0
  · have hz : ((l.length : Int) == 0) = true := by rw [beq_iff_eq]; omega
    clear h0
    have HB0 := Lib.hid (Below.refl w.heap.size w)
    go_enter Try.func14, Try.ntmps14
    go_wp2
    go_ret
    exact ⟨rfl, HB0.out⟩
  · have hz : ((l.length : Int) == 0) = false := by rw [beq_eq_false_iff_ne]; omega
    have hpos : 0 < l.length := by omega
    clear h0
    by_cases hp : HeapOrd l
    · obtain ⟨⟨pk, pt⟩, hp⟩ : ∃ x : Int × Int, popTop klt (0, 0) l = x := ⟨_, rfl⟩
      have Hp := Lib.hid hp
      clear hp
      have hfirst := popTop_first klt (0, 0) l hpos
      rw [Hp.out, at_get _ hpos] at hfirst
      have HF := Lib.hid hfirst
      clear hfirst
      have HB0 := Lib.hid (Below.refl w.heap.size w)
      go_enter Try.func14, Try.ntmps14
      go_wp2_with fail
      (with_reducible refine (toItems_any A c l w Sx.out (by omega)).mono ?_)
      rintro e w1 ⟨A1, c1, rfl, ho1, hb1⟩
      have Sx_1 := Lib.hid ((Sx.out.below hb1).more hb1.size)
      have HB1 := Lib.hid (HB0.out.trans (hb1.mono HB0.out.size))
      have Sa_1 := Lib.hid (Sees.of_own ho1)
      clear ho1
      clear hb1
      go_wp2_with fail
      (with_reducible refine (calls_val (v' := .bool true) (quiet_below (heapOrdered_any A1 c1 (l) w1 _ Sa_1.out (by omega))) (by rw [(hoB_iff _).2 hp])).mono ?_)
      rintro e w2 ⟨rfl, hb2⟩
      have Sx_2 := Lib.hid ((Sx_1.out.below hb2).more hb2.size)
      have Sa_2 := Lib.hid ((Sa_1.out.below hb2).more hb2.size)
      have HB2 := Lib.hid (HB1.out.trans (hb2.mono HB1.out.size))
      clear hb2
      go_wp2_with fail
      (with_reducible refine (toItems_any A c l w2 Sx_2.out (by omega)).mono ?_)
      rintro e w3 ⟨A3, c3, rfl, ho3, hb3⟩
      have Sx_3 := Lib.hid ((Sx_2.out.below hb3).more hb3.size)
      have Sa_3 := Lib.hid ((Sa_2.out.below hb3).more hb3.size)
      have HB3 := Lib.hid (HB2.out.trans (hb3.mono HB2.out.size))
      have Sb_3 := Lib.hid (Sees.of_own ho3)
      clear ho3
      clear hb3
      go_wp2_with fail
      (with_reducible refine (newand_eq (heapPop_any A3 c3 (l) w3 Sb_3.out (hpos) (by omega)) Hp.out).mono ?_)
      rintro e w4 ⟨A4, c4, rfl, ho4, hb4⟩
      have Sx_4 := Lib.hid ((Sx_3.out.below hb4).more hb4.size)
      have Sa_4 := Lib.hid ((Sa_3.out.below hb4).more hb4.size)
      have Sb_4 := Lib.hid ((Sb_3.out.below hb4).more hb4.size)
      have HB4 := Lib.hid (HB3.out.trans (hb4.mono HB3.out.size))
      have Sr_4 := Lib.hid (Sees.of_own ho4)
      clear ho4
      clear hb4
      go_wp2_with fail
      obtain ⟨W5, hW5⟩ : ∃ W : World, W = (w4.alloc (.cells #[.int .i64 pk, .int .i64 pt] 32)) := ⟨_, rfl⟩
      rw [← hW5]
      have hb5 : Below w4.heap.size w4 W5 := by rw [hW5]; exact ((Below.refl _ _).alloc (Nat.le_refl _) _)
      have hkv5 : Blk W5 (w4.heap.size) 32 #[.int .i64 pk, .int .i64 pt] := by rw [hW5]; exact Blk.new _ _ _
      have Sx_5 := Lib.hid ((Sx_4.out.below hb5).more hb5.size)
      have Sa_5 := Lib.hid ((Sa_4.out.below hb5).more hb5.size)
      have Sb_5 := Lib.hid ((Sb_4.out.below hb5).more hb5.size)
      have Sr_5 := Lib.hid ((Sr_4.out.below hb5).more hb5.size)
      have HB5 := Lib.hid (HB4.out.trans (hb5.mono HB4.out.size))
      have v0_5 : W5.cell? ⟨w4.heap.size, 0, none⟩ = some (.int .i64 pk) := hkv5.cell 0
      have v1_5 : W5.cell? ⟨w4.heap.size, 1, none⟩ = some (.int .i64 pt) := hkv5.cell 1
      have ltv_5 : w4.heap.size < W5.heap.size := hkv5.lt
      clear hkv5
      clear hW5 hb5
      obtain ⟨bb, off, rfl, hbw, hc⟩ := Sx_5.out.2 hpos
      have x0 := hc 0 _ (ics_key l 0 hpos)
      have x1 := hc 1 _ (ics_tag l 0 hpos)
      clear hc
      rw [← HF.out] at x0 x1
      rw [Nat.add_zero] at x0
      dsimp only at x0 x1
      have hpi : (0 : Int) < (l.length : Int) := by omega
      go_quiet (fail)
      go_wp2
      go_ret
      exact ⟨by simp, below_drewN HB5.out _⟩
    · have HB0 := Lib.hid (Below.refl w.heap.size w)
      go_enter Try.func14, Try.ntmps14
      go_wp2_with fail
      (with_reducible refine (toItems_any A c l w Sx.out (by omega)).mono ?_)
      rintro e w1 ⟨A1, c1, rfl, ho1, hb1⟩
      have Sx_1 := Lib.hid ((Sx.out.below hb1).more hb1.size)
      have HB1 := Lib.hid (HB0.out.trans (hb1.mono HB0.out.size))
      have Sa_1 := Lib.hid (Sees.of_own ho1)
      clear ho1
      clear hb1
      go_wp2_with fail
      (with_reducible refine (calls_val (v' := .bool false) (quiet_below (heapOrdered_any A1 c1 (l) w1 _ Sa_1.out (by omega))) (by rw [hoB_false hp])).mono ?_)
      rintro e w2 ⟨rfl, hb2⟩
      have Sx_2 := Lib.hid ((Sx_1.out.below hb2).more hb2.size)
      have Sa_2 := Lib.hid ((Sa_1.out.below hb2).more hb2.size)
      have HB2 := Lib.hid (HB1.out.trans (hb2.mono HB1.out.size))
      clear hb2
      go_wp2
      go_ret
      exact ⟨rfl, HB2.out⟩

set_option maxRecDepth 100000 in
theorem fnPopFirst_contract (H : Type) (enc : TypeId × Value → H) (W : World) (base : Nat) (args : Array Value) (ds gs : List (DataW H)) (before : List MemPlace)
    (hval : ∀ (j : Nat) t v, Try.f14.params[j]? = some t → args[j]? = some v → Value.okWide Try.prog W .any base t v)
    (hW : DataW.Whole enc Try.prog Try.f14.params.toList Rows.fnPopFirstSpec.vars false W args.toList ds gs before)
    (hsz : (DataW.weightsEach Try.prog (Try.f14.params.toList ++ Rows.fnPopFirstSpec.plain.varTypes Try.prog) (ds ++ gs)).all (· ≤ reachBytes) = true) :
    Calls Try.prog 14 args W fun e W' => ∃ v, e = .returned v ∧ Rows.fnPopFirstSpec.post enc Try.prog Try.f14 false true false false W args v W' := by
  have hW' := hW
  obtain ⟨p, q, hA0, hV, rfl, hfz, hnd⟩ := hW
  have hA : DataW.TrodAll enc Try.prog W 0 (fun _ => true) true Try.f14.params.toList args.toList ds p := hA0
  rw [Try.params14] at hA hval hsz
  obtain ⟨v0, vs0, d0, ds0, p0, q0, hargs, rfl, rfl, h0, r0⟩ := trodAll_cons hA
  obtain ⟨rfl, rfl, rfl⟩ := trodAll_nil r0
  obtain rfl : args = #[v0] := by cases args; simp_all
  obtain ⟨rfl, rfl⟩ := trodVars_none hV
  have k0 := h0
  have lt0 : ∀ x ∈ p0, x.block < W.heap.size := by obtain ⟨m, hm⟩ := k0; exact DataW.trod_lt m _ _ _ hm
  obtain ⟨a0, len0, c0, rfl⟩ := okWide_slice Try.underlying22 (hval 0 22 v0 rfl rfl)
  obtain ⟨l0, rfl, hs0, hd0⟩ := open_items Try.underlying22 Try.underlying30 (by kernel_rfl) rfl rfl (by kernel_rfl) (by kernel_rfl) Try.underlying3 Try.underlying3 h0
  have hn0 := items_reach hsz (j := 0) rfl rfl Try.underlying22 (by kernel_rfl) hd0
  clear hA0 hsz
  refine (fnPopFirst_any a0 c0 l0 W hs0 hn0).mono fun e W' ⟨he, bel⟩ => ?_
  subst he
  exact ⟨_, rfl, _, _, _, [], _, [], hW', trodAll_mk1 (shut_bool Try.underlying4 _), (trodAll_cons_mk (Below.trod Try.laidOut (by kernel_rfl) (of_decide_eq_true (by kernel_rfl)) k0 bel lt0) trodAll_mk0), rfl, bel.frame _, fun h => by cases h⟩

set_option maxRecDepth 100000 in
theorem fnPopFirst_lifted (os : Os) (started : os.Started) (H : Type) (enc : TypeId × Value → H) :
    ReturnsInHanded {} Try.checked os 14 .any (Rows.fnPopFirstSpec.pre6 enc Try.prog Try.f14 Rows.fnPopFirstRow.domain false) (Rows.fnPopFirstSpec.post enc Try.prog Try.f14 false true false false) := by
  refine returnsInHanded_of_change_sized (C := Try.checked) Try.own started (by kernel_rfl) Try.func14
    (ChangeSpec.witness6 (enc := enc) (C := Try.checked) false ⟨#[], #[.slice none 0 0], []⟩ 8 (by kernel_rfl) (by kernel_rfl) (by kernel_rfl) (by kernel_rfl)) ?_
  intro W base args ds gs before hval hW _ hsz _
  exact fnPopFirst_contract H enc W base args ds gs before hval hW hsz

theorem fnPopFirst_holds : Rows.FnPopFirstSaid :=
  OpenClaim.holds_of_wide 14 Try.f14 rfl rfl rfl rfl rfl rfl rfl ⟨rfl, rfl, rfl, rfl, rfl⟩ rfl rfl rfl rfl rfl (by kernel_rfl) Try.func14 (by kernel_rfl)
    (of_decide_eq_true (by kernel_rfl)) (by unfold Func.isWrapper; first | (rw [if_pos (by decide +kernel)]; kernel_rfl) | (rw [if_neg (by decide +kernel)]; exact ⟨rfl, rfl⟩))
    (fun os started H enc _ => fnPopFirst_lifted os started H enc)
#print axioms fnPopFirst_holds
end Go.Proofs.Ytdccdihkkfhadaa
