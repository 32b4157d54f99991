/- For every list of items, FnPop returns true: Pop removes an element from a list with heap order before which there is no other one, returns it, and keeps heap order. No condition. -/
import Derived.Test.YtdccdihkkfhadaaSameItems
import Derived.Test.YtdccdihkkfhadaaItemLaws
import Derived.Test.YtdccdihkkfhadaaItemPush
import Derived.Test.YtdccdihkkfhadaaWithout
import Derived.Test.YtdccdihkkfhadaaArgs
import Derived.Deep.RegionHeld3
namespace Go.Proofs.Ytdccdihkkfhadaa
set_option linter.unusedVariables false
open Go.RowKit Go.ChangeShapes Go.WideShapes Go.ChangeAt

set_option maxHeartbeats 1000000 in
theorem fnPop_any (A : Option Addr) (c : Nat) (l : List (Int × Int)) (w : World) (hs : Sees w w.heap.size 2 A l.length (ics l)) (hn : l.length * 16 ≤ 140737488351232) :
    Calls Try.prog 13 #[.slice A l.length c] w fun e w' => e = .returned (.bool true) ∧ Below w.heap.size w w' := by
  have Sx := Lib.hid hs
  clear hs
  by_cases h0 : l.length = 0
  · have hz : ((l.length : Int) == 0) = true := by rw [beq_iff_eq]; omega
    clear h0
    have HB0 := Lib.hid (Below.refl w.heap.size w)
    go_enter Try.func13, Try.ntmps13
    go_wp2
    go_ret
    exact ⟨rfl, HB0.out⟩
  · have hz : ((l.length : Int) == 0) = false := by rw [beq_eq_false_iff_ne]; omega
    have hpos : 0 < l.length := by omega
    clear h0
    by_cases hp : HeapOrd l
    · obtain ⟨⟨pk, pt⟩, hp⟩ : ∃ x : Int × Int, popTop klt (0, 0) l = x := ⟨_, rfl⟩
      have Hp := Lib.hid hp
      clear hp
      have HLE := Lib.hid (pop_le l hp hpos)
      rw [Hp.out] at HLE
      obtain ⟨Le, hLe⟩ : ∃ Le : List (Int × Int), l.erase (pk, pt) = Le := ⟨_, rfl⟩
      have HLe := Lib.hid hLe
      clear hLe
      have hmem := popTop_mem klt (0, 0) l hpos
      rw [Hp.out] at hmem
      obtain ⟨cn, hcn⟩ : ∃ cn, cntI l (pk, pt) = cn + 1 := ⟨cntI l (pk, pt) - 1, by have := List.one_le_count_iff.2 hmem; unfold cntI; omega⟩
      have HCN := Lib.hid hcn
      have hcl := cntI_le l (pk, pt)
      rw [hcn] at hcl
      clear hcn
      have HER := Lib.hid (pop_erase l hpos)
      rw [Hp.out, HLe.out] at HER
      clear hmem
      have hell : Le.length ≤ l.length := by rw [← HLe.out]; exact List.length_erase_le
      have HB0 := Lib.hid (Below.refl w.heap.size w)
      go_enter Try.func13, Try.ntmps13
      go_wp2_with fail
      (with_reducible refine (toItems_any A c l w Sx.out (by omega)).mono ?_)
      rintro e w1 ⟨A1, c1, rfl, ho1, hb1⟩
      have Sx_1 := Lib.hid ((Sx.out.below hb1).more hb1.size)
      have HB1 := Lib.hid (HB0.out.trans (hb1.mono HB0.out.size))
      have Sa_1 := Lib.hid (Sees.of_own ho1)
      clear ho1
      clear hb1
      go_wp2_with fail
      (with_reducible refine (calls_val (v' := .bool true) (quiet_below (heapOrdered_any A1 c1 (l) w1 _ Sa_1.out (by omega))) (by rw [(hoB_iff _).2 hp])).mono ?_)
      rintro e w2 ⟨rfl, hb2⟩
      have Sx_2 := Lib.hid ((Sx_1.out.below hb2).more hb2.size)
      have Sa_2 := Lib.hid ((Sa_1.out.below hb2).more hb2.size)
      have HB2 := Lib.hid (HB1.out.trans (hb2.mono HB1.out.size))
      clear hb2
      go_wp2_with fail
      (with_reducible refine (toItems_any A c l w2 Sx_2.out (by omega)).mono ?_)
      rintro e w3 ⟨A3, c3, rfl, ho3, hb3⟩
      have Sx_3 := Lib.hid ((Sx_2.out.below hb3).more hb3.size)
      have Sa_3 := Lib.hid ((Sa_2.out.below hb3).more hb3.size)
      have HB3 := Lib.hid (HB2.out.trans (hb3.mono HB2.out.size))
      have Sb_3 := Lib.hid (Sees.of_own ho3)
      clear ho3
      clear hb3
      go_wp2_with fail
      (with_reducible refine (newand_eq (heapPop_any A3 c3 (l) w3 Sb_3.out (hpos) (by omega)) Hp.out).mono ?_)
      rintro e w4 ⟨A4, c4, rfl, ho4, hb4⟩
      have Sx_4 := Lib.hid ((Sx_3.out.below hb4).more hb4.size)
      have Sa_4 := Lib.hid ((Sa_3.out.below hb4).more hb4.size)
      have Sb_4 := Lib.hid ((Sb_3.out.below hb4).more hb4.size)
      have HB4 := Lib.hid (HB3.out.trans (hb4.mono HB3.out.size))
      have Sr_4 := Lib.hid (Sees.of_own ho4)
      clear ho4
      clear hb4
      go_wp2_with fail
      obtain ⟨W5, hW5⟩ : ∃ W : World, W = (w4.alloc (.cells #[.int .i64 pk, .int .i64 pt] 32)) := ⟨_, rfl⟩
      rw [← hW5]
      have hb5 : Below w4.heap.size w4 W5 := by rw [hW5]; exact ((Below.refl _ _).alloc (Nat.le_refl _) _)
      have hkv5 : Blk W5 (w4.heap.size) 32 #[.int .i64 pk, .int .i64 pt] := by rw [hW5]; exact Blk.new _ _ _
      have Sx_5 := Lib.hid ((Sx_4.out.below hb5).more hb5.size)
      have Sa_5 := Lib.hid ((Sa_4.out.below hb5).more hb5.size)
      have Sb_5 := Lib.hid ((Sb_4.out.below hb5).more hb5.size)
      have Sr_5 := Lib.hid ((Sr_4.out.below hb5).more hb5.size)
      have HB5 := Lib.hid (HB4.out.trans (hb5.mono HB4.out.size))
      have v0_5 : W5.cell? ⟨w4.heap.size, 0, none⟩ = some (.int .i64 pk) := hkv5.cell 0
      have v1_5 : W5.cell? ⟨w4.heap.size, 1, none⟩ = some (.int .i64 pt) := hkv5.cell 1
      have ltv_5 : w4.heap.size < W5.heap.size := hkv5.lt
      clear hkv5
      clear hW5 hb5
      go_wp2_with fail
      go_loopg [24] l.length (fun m i wr => ∃ (j : Nat), i = .int .i64 j ∧ j + m = l.length ∧ Hid (Below W5.heap.size W5 wr))
      case atStart => exact ⟨0, rfl, by omega, Below.refl _ _⟩
      case round =>
        obtain ⟨j, rfl, hj, HW⟩ := hrel
        by_cases hlt : j < l.length
        · obtain ⟨b, off, rfl, hbw, hc⟩ := Sx_5.out.cellAt (by omega) HW.out
          have x0 := hc (j * 2) _ (ics_key l j hlt)
          have x1 := hc (j * 2 + 1) _ (ics_tag l j hlt)
          clear hc
          rw [← Nat.add_assoc] at x1
          have hle : ¬ l[j].1 < pk := by have := HLE.out l[j] (List.getElem_mem hlt); omega
          generalize l[j].1 = xk at *
          generalize l[j].2 = xt at *
          have y0 := (HW.out.cell (p := ⟨w4.heap.size, 0, none⟩) ltv_5).trans v0_5
          have hl1 : w4.heap.size < wr.heap.size := Nat.lt_of_lt_of_le ltv_5 HW.out.size
          have hl2 : b < wr.heap.size := Nat.lt_of_lt_of_le hbw HW.out.size
          have hj' := Lib.hid hj
          clear hj
          have hjl : j + 1 ≤ l.length := hlt
          go_wp2
          go_roundg (l.length - (j + 1))
          case measure => have := hj'.out; omega
          case rel => exact ⟨j + 1, by go_num, by omega, HW.out.alloc HW.out.size _⟩
        · obtain rfl : j = l.length := by omega
          have hbw := HW.out
          have Sx_6 := Lib.hid ((Sx_5.out.below hbw).more hbw.size)
          have Sa_6 := Lib.hid ((Sa_5.out.below hbw).more hbw.size)
          have Sb_6 := Lib.hid ((Sb_5.out.below hbw).more hbw.size)
          have Sr_6 := Lib.hid ((Sr_5.out.below hbw).more hbw.size)
          have v0_6 := (hbw.cell (p := ⟨w4.heap.size, 0, none⟩) ltv_5).trans v0_5
          have v1_6 := (hbw.cell (p := ⟨w4.heap.size, 1, none⟩) ltv_5).trans v1_5
          have ltv_6 := Nat.lt_of_lt_of_le ltv_5 hbw.size
          have HB6 := Lib.hid (HB5.out.trans (hbw.mono HB5.out.size))
          clear hbw
          go_wp2_with fail
          have hgt : decide ((0 : Int) < (cn : Int) + 1) = true := decide_eq_true (by omega)
          have Sx_6d := Lib.hid (Sees.drewT Sx_6.out)
          have Sa_6d := Lib.hid (Sees.drewT Sa_6.out)
          have Sb_6d := Lib.hid (Sees.drewT Sb_6.out)
          have Sr_6d := Lib.hid (Sees.drewT Sr_6.out)
          have HB6d := Lib.hid HB6.out.drew
          go_region_held3 (fun w' => w'.cell? ⟨w4.heap.size, 0, none⟩ = some (.int .i64 pk) ∧ w'.cell? ⟨w4.heap.size, 1, none⟩ = some (.int .i64 pt)) (first | go_keep | (exact ⟨by assumption, by assumption⟩))
            (first
              | (go_at_call 18; (with_reducible refine (calls_val (v' := .bool true) (sameElements_any A4 A11 c4 c11 (popRest klt l) Le w11 Sr_11.out Sy_11.out (by rw [popRest_length]; omega) (by omega)) (by rw [sameB_perm HER.out])).mono ?_); rintro e w12 ⟨rfl, hb12⟩; have Sx_12 := Lib.hid ((Sx_11.out.below hb12).more hb12.size); have Sa_12 := Lib.hid ((Sa_11.out.below hb12).more hb12.size); have Sb_12 := Lib.hid ((Sb_11.out.below hb12).more hb12.size); have Sr_12 := Lib.hid ((Sr_11.out.below hb12).more hb12.size); have Sd_12 := Lib.hid ((Sd_11.out.below hb12).more hb12.size); have Sf_12 := Lib.hid ((Sf_11.out.below hb12).more hb12.size); have Sy_12 := Lib.hid ((Sy_11.out.below hb12).more hb12.size); have v0_12 := (hb12.cell (p := ⟨w4.heap.size, 0, none⟩) ltv_11).trans v0_11; have v1_12 := (hb12.cell (p := ⟨w4.heap.size, 1, none⟩) ltv_11).trans v1_11; have ltv_12 := Nat.lt_of_lt_of_le ltv_11 hb12.size; have HB12 := Lib.hid (HB11.out.trans (hb12.mono HB11.out.size)); clear hb12)
              | (go_at_call 28; (with_reducible refine (new_eq (withoutItem_any A10 c10 l pk pt w10 Sf_10.out (by omega)) HLe.out).mono ?_); rintro e w11 ⟨A11, c11, rfl, ho11, hb11⟩; have Sx_11 := Lib.hid ((Sx_10.out.below hb11).more hb11.size); have Sa_11 := Lib.hid ((Sa_10.out.below hb11).more hb11.size); have Sb_11 := Lib.hid ((Sb_10.out.below hb11).more hb11.size); have Sr_11 := Lib.hid ((Sr_10.out.below hb11).more hb11.size); have Sd_11 := Lib.hid ((Sd_10.out.below hb11).more hb11.size); have Sf_11 := Lib.hid ((Sf_10.out.below hb11).more hb11.size); have v0_11 := (hb11.cell (p := ⟨w4.heap.size, 0, none⟩) ltv_10).trans v0_10; have v1_11 := (hb11.cell (p := ⟨w4.heap.size, 1, none⟩) ltv_10).trans v1_10; have ltv_11 := Nat.lt_of_lt_of_le ltv_10 hb11.size; have HB11 := Lib.hid (HB10.out.trans (hb11.mono HB10.out.size)); have Sy_11 := Lib.hid (Sees.of_own ho11); clear ho11; clear hb11)
              | (go_at_call 16; (with_reducible refine (toItems_any A c l w9 Sx_9.out (by omega)).mono ?_); rintro e w10 ⟨A10, c10, rfl, ho10, hb10⟩; have Sx_10 := Lib.hid ((Sx_9.out.below hb10).more hb10.size); have Sa_10 := Lib.hid ((Sa_9.out.below hb10).more hb10.size); have Sb_10 := Lib.hid ((Sb_9.out.below hb10).more hb10.size); have Sr_10 := Lib.hid ((Sr_9.out.below hb10).more hb10.size); have Sd_10 := Lib.hid ((Sd_9.out.below hb10).more hb10.size); have v0_10 := (hb10.cell (p := ⟨w4.heap.size, 0, none⟩) ltv_9).trans v0_9; have v1_10 := (hb10.cell (p := ⟨w4.heap.size, 1, none⟩) ltv_9).trans v1_9; have ltv_10 := Nat.lt_of_lt_of_le ltv_9 hb10.size; have HB10 := Lib.hid (HB9.out.trans (hb10.mono HB9.out.size)); have Sf_10 := Lib.hid (Sees.of_own ho10); clear ho10; clear hb10)
              | (go_at_call 17; (with_reducible refine (calls_val (v' := .bool true) (quiet_below (heapOrdered_any A4 c4 (popRest klt l) w8 _ Sr_8.out (by simp only [popRest_length]; omega))) (by rw [popRest_ord l hp hpos])).mono ?_); rintro e w9 ⟨rfl, hb9⟩; have Sx_9 := Lib.hid ((Sx_8.out.below hb9).more hb9.size); have Sa_9 := Lib.hid ((Sa_8.out.below hb9).more hb9.size); have Sb_9 := Lib.hid ((Sb_8.out.below hb9).more hb9.size); have Sr_9 := Lib.hid ((Sr_8.out.below hb9).more hb9.size); have Sd_9 := Lib.hid ((Sd_8.out.below hb9).more hb9.size); have v0_9 := (hb9.cell (p := ⟨w4.heap.size, 0, none⟩) ltv_8).trans v0_8; have v1_9 := (hb9.cell (p := ⟨w4.heap.size, 1, none⟩) ltv_8).trans v1_8; have ltv_9 := Nat.lt_of_lt_of_le ltv_8 hb9.size; have HB9 := Lib.hid (HB8.out.trans (hb9.mono HB8.out.size)); clear hb9)
              | (go_at_call 27; (with_reducible refine (calls_val (v' := .int .i64 ((cn : Int) + 1)) (countItem_any A7 c7 l pk pt w7 Sd_7.out (by omega)) (by rw [HCN.out]; exact int_succ cn)).mono ?_); rintro e w8 ⟨rfl, hb8⟩; have Sx_8 := Lib.hid ((Sx_7.out.below hb8).more hb8.size); have Sa_8 := Lib.hid ((Sa_7.out.below hb8).more hb8.size); have Sb_8 := Lib.hid ((Sb_7.out.below hb8).more hb8.size); have Sr_8 := Lib.hid ((Sr_7.out.below hb8).more hb8.size); have Sd_8 := Lib.hid ((Sd_7.out.below hb8).more hb8.size); have v0_8 := (hb8.cell (p := ⟨w4.heap.size, 0, none⟩) ltv_7).trans v0_7; have v1_8 := (hb8.cell (p := ⟨w4.heap.size, 1, none⟩) ltv_7).trans v1_7; have ltv_8 := Nat.lt_of_lt_of_le ltv_7 hb8.size; have HB8 := Lib.hid (HB7.out.trans (hb8.mono HB7.out.size)); clear hb8)
              | (go_at_call 16; (with_reducible refine (toItems_any A c l wr.drew Sx_6d.out (by omega)).mono ?_); rintro e w7 ⟨A7, c7, rfl, ho7, hb7⟩; have Sx_7 := Lib.hid ((Sx_6d.out.below hb7).more hb7.size); have Sa_7 := Lib.hid ((Sa_6d.out.below hb7).more hb7.size); have Sb_7 := Lib.hid ((Sb_6d.out.below hb7).more hb7.size); have Sr_7 := Lib.hid ((Sr_6d.out.below hb7).more hb7.size); have v0_7 := (hb7.cell (p := ⟨w4.heap.size, 0, none⟩) ltv_6).trans v0_6; have v1_7 := (hb7.cell (p := ⟨w4.heap.size, 1, none⟩) ltv_6).trans v1_6; have ltv_7 := Nat.lt_of_lt_of_le ltv_6 hb7.size; have HB7 := Lib.hid (HB6d.out.trans (hb7.mono HB6d.out.size)); have Sd_7 := Lib.hid (Sees.of_own ho7); clear ho7; clear hb7))
          go_wp2
          go_ret
          exact ⟨rfl, HB12.out⟩
    · have HB0 := Lib.hid (Below.refl w.heap.size w)
      go_enter Try.func13, Try.ntmps13
      go_wp2_with fail
      (with_reducible refine (toItems_any A c l w Sx.out (by omega)).mono ?_)
      rintro e w1 ⟨A1, c1, rfl, ho1, hb1⟩
      have Sx_1 := Lib.hid ((Sx.out.below hb1).more hb1.size)
      have HB1 := Lib.hid (HB0.out.trans (hb1.mono HB0.out.size))
      have Sa_1 := Lib.hid (Sees.of_own ho1)
      clear ho1
      clear hb1
      go_wp2_with fail
      (with_reducible refine (calls_val (v' := .bool false) (quiet_below (heapOrdered_any A1 c1 (l) w1 _ Sa_1.out (by omega))) (by rw [hoB_false hp])).mono ?_)
      rintro e w2 ⟨rfl, hb2⟩
      have Sx_2 := Lib.hid ((Sx_1.out.below hb2).more hb2.size)
      have Sa_2 := Lib.hid ((Sa_1.out.below hb2).more hb2.size)
      have HB2 := Lib.hid (HB1.out.trans (hb2.mono HB1.out.size))
      clear hb2
      go_wp2
      go_ret
      exact ⟨rfl, HB2.out⟩

set_option maxRecDepth 100000 in
theorem fnPop_contract (H : Type) (enc : TypeId × Value → H) (W : World) (base : Nat) (args : Array Value) (ds gs : List (DataW H)) (before : List MemPlace)
    (hval : ∀ (j : Nat) t v, Try.f13.params[j]? = some t → args[j]? = some v → Value.okWide Try.prog W .any base t v)
    (hW : DataW.Whole enc Try.prog Try.f13.params.toList Rows.fnPopSpec.vars false W args.toList ds gs before)
    (hsz : (DataW.weightsEach Try.prog (Try.f13.params.toList ++ Rows.fnPopSpec.plain.varTypes Try.prog) (ds ++ gs)).all (· ≤ reachBytes) = true) :
    Calls Try.prog 13 args W fun e W' => ∃ v, e = .returned v ∧ Rows.fnPopSpec.post enc Try.prog Try.f13 false true false false W args v W' := by
  have hW' := hW
  obtain ⟨p, q, hA0, hV, rfl, hfz, hnd⟩ := hW
  have hA : DataW.TrodAll enc Try.prog W 0 (fun _ => true) true Try.f13.params.toList args.toList ds p := hA0
  rw [Try.params13] at hA hval hsz
  obtain ⟨v0, vs0, d0, ds0, p0, q0, hargs, rfl, rfl, h0, r0⟩ := trodAll_cons hA
  obtain ⟨rfl, rfl, rfl⟩ := trodAll_nil r0
  obtain rfl : args = #[v0] := by cases args; simp_all
  obtain ⟨rfl, rfl⟩ := trodVars_none hV
  have k0 := h0
  have lt0 : ∀ x ∈ p0, x.block < W.heap.size := by obtain ⟨m, hm⟩ := k0; exact DataW.trod_lt m _ _ _ hm
  obtain ⟨a0, len0, c0, rfl⟩ := okWide_slice Try.underlying22 (hval 0 22 v0 rfl rfl)
  obtain ⟨l0, rfl, hs0, hd0⟩ := open_items Try.underlying22 Try.underlying30 (by kernel_rfl) rfl rfl (by kernel_rfl) (by kernel_rfl) Try.underlying3 Try.underlying3 h0
  have hn0 := items_reach hsz (j := 0) rfl rfl Try.underlying22 (by kernel_rfl) hd0
  clear hA0 hsz
  refine (fnPop_any a0 c0 l0 W hs0 hn0).mono fun e W' ⟨he, bel⟩ => ?_
  subst he
  exact ⟨_, rfl, _, _, _, [], _, [], hW', trodAll_mk1 (shut_bool Try.underlying4 _), (trodAll_cons_mk (Below.trod Try.laidOut (by kernel_rfl) (of_decide_eq_true (by kernel_rfl)) k0 bel lt0) trodAll_mk0), rfl, bel.frame _, fun h => by cases h⟩

set_option maxRecDepth 100000 in
theorem fnPop_lifted (os : Os) (started : os.Started) (H : Type) (enc : TypeId × Value → H) :
    ReturnsInHanded {} Try.checked os 13 .any (Rows.fnPopSpec.pre6 enc Try.prog Try.f13 Rows.fnPopRow.domain false) (Rows.fnPopSpec.post enc Try.prog Try.f13 false true false false) := by
  refine returnsInHanded_of_change_sized (C := Try.checked) Try.own started (by kernel_rfl) Try.func13
    (ChangeSpec.witness6 (enc := enc) (C := Try.checked) false ⟨#[], #[.slice none 0 0], []⟩ 8 (by kernel_rfl) (by kernel_rfl) (by kernel_rfl) (by kernel_rfl)) ?_
  intro W base args ds gs before hval hW _ hsz _
  exact fnPop_contract H enc W base args ds gs before hval hW hsz

theorem fnPop_holds : Rows.FnPopSaid :=
  OpenClaim.holds_of_wide 13 Try.f13 rfl rfl rfl rfl rfl rfl rfl ⟨rfl, rfl, rfl, rfl, rfl⟩ rfl rfl rfl rfl rfl (by kernel_rfl) Try.func13 (by kernel_rfl)
    (of_decide_eq_true (by kernel_rfl)) (by unfold Func.isWrapper; first | (rw [if_pos (by decide +kernel)]; kernel_rfl) | (rw [if_neg (by decide +kernel)]; exact ⟨rfl, rfl⟩))
    (fun os started H enc _ => fnPop_lifted os started H enc)
#print axioms fnPop_holds
end Go.Proofs.Ytdccdihkkfhadaa
