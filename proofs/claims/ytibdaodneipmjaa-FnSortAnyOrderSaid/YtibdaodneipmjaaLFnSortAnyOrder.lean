/- For all lists of numbers x and y, FnSortAnyOrder returns true: lists with the same elements are sorted to the same list. No condition. -/
import Derived.Test.YtibdaodneipmjaaSortInts
import Derived.Test.YtibdaodneipmjaaArgs
import Derived.Deep.RegionHeld3
import Derived.Deep.QuietTactic
import Derived.BigQuiet
namespace Go.Proofs.Ytibdaodneipmjaa
set_option linter.unusedVariables false
open Go.RowKit Go.ChangeShapes Go.WideShapes Go.ChangeAt

set_option maxHeartbeats 400000 in
theorem fnSortAnyOrder_any (A : Option Addr) (c : Nat) (l : List Int) (A' : Option Addr) (c' : Nat) (l' : List Int) (w : World) (hs : Sees w w.heap.size 1 A l.length (l.map (Value.int .i64))) (hw : ∀ x ∈ l, (Lit.int .i64 x).wf = true) (hn : l.length * 8 ≤ 140737488351232) (hs' : Sees w w.heap.size 1 A' l'.length (l'.map (Value.int .i64))) (hw' : ∀ x ∈ l', (Lit.int .i64 x).wf = true) (hn' : l'.length * 8 ≤ 140737488351232) :
    Calls Try.prog 5 #[.slice A l.length c, .slice A' l'.length c'] w fun e w' => e = .returned (.bool true) ∧ Below w.heap.size w w' := by
  have Sx := Lib.hid hs
  clear hs
  have Sy := Lib.hid hs'
  clear hs'
  by_cases h0 : sameN l l' = true
  · have HP := Lib.hid (perm_of_sameN h0)
    have hll : l.length = l'.length := HP.out.length_eq
    obtain ⟨Y, hY⟩ : ∃ x : List Int, sortF ilt 0 l = x := ⟨_, rfl⟩
    have HY := Lib.hid hY
    clear hY
    have NY : Y.length = l.length := by rw [← HY.out]; exact sortF_length 0 ilt l
    have NYa := Nat.le_of_eq NY
    have NYb := Nat.le_of_eq NY.symm
    clear NY
    obtain ⟨Z, hZ⟩ : ∃ x : List Int, sortF ilt 0 l' = x := ⟨_, rfl⟩
    have HZ := Lib.hid hZ
    clear hZ
    have NZ : Z.length = l'.length := by rw [← HZ.out]; exact sortF_length 0 ilt _
    have NZa := Nat.le_of_eq NZ
    have NZb := Nat.le_of_eq NZ.symm
    clear NZ
    have HE := Lib.hid (show Y = Z by rw [← HY.out, ← HZ.out]; exact sorted_eq (((sortF_perm 0 ilt l).trans HP.out).trans (sortF_perm 0 ilt l').symm) (sortI_le _) (sortI_le _))
    have hlen : ((Y.length : Int) == (l.length : Int)) = true := by rw [beq_iff_eq]; omega
    have HLLa := Nat.le_of_eq hll
    clear hll
    have HB0 := Lib.hid (Below.refl w.heap.size w)
    go_enter Try.func5, Try.ntmps5
    go_wp2_with fail
    (with_reducible refine (calls_val (v' := .bool true) (quiet_below (sameNumbers_any A A' c c' l l' w _ _ Sx.out Sy.out (by omega) (by omega))) (by rw [h0])).mono ?_)
    rintro e w1 ⟨rfl, hb1⟩
    have Sx_1 := Lib.hid ((Sx.out.below hb1).more hb1.size)
    have Sy_1 := Lib.hid ((Sy.out.below hb1).more hb1.size)
    have HB1 := Lib.hid (HB0.out.trans (hb1.mono HB0.out.size))
    clear hb1
    go_wp2_with fail
    (with_reducible refine (newn_eq (sortInts_any A c l w1 Sx_1.out (by omega)) HY.out).mono ?_)
    rintro e w2 ⟨A2, c2, rfl, ho2, hb2⟩
    have Sx_2 := Lib.hid ((Sx_1.out.below hb2).more hb2.size)
    have Sy_2 := Lib.hid ((Sy_1.out.below hb2).more hb2.size)
    have HB2 := Lib.hid (HB1.out.trans (hb2.mono HB1.out.size))
    have Sz_2 := Lib.hid (Sees.of_own ho2)
    clear ho2
    clear hb2
    go_wp2_with fail
    (with_reducible refine (newn_eq (sortInts_any A' c' l' w2 Sy_2.out (by omega)) HZ.out).mono ?_)
    rintro e w3 ⟨A3, c3, rfl, ho3, hb3⟩
    have Sx_3 := Lib.hid ((Sx_2.out.below hb3).more hb3.size)
    have Sy_3 := Lib.hid ((Sy_2.out.below hb3).more hb3.size)
    have Sz_3 := Lib.hid ((Sz_2.out.below hb3).more hb3.size)
    have HB3 := Lib.hid (HB2.out.trans (hb3.mono HB2.out.size))
    have Sq_3 := Lib.hid (Sees.of_own ho3)
    clear ho3
    clear hb3
    go_wp2_with fail
    (with_reducible refine (calls_val (v' := .bool true) (quiet_below (sameInts_any A2 A3 c2 c3 Y Z w3 _ _ Sz_3.out Sq_3.out (by omega) (by omega))) (by rw [decide_eq_true HE.out])).mono ?_)
    rintro e w4 ⟨rfl, hb4⟩
    have Sx_4 := Lib.hid ((Sx_3.out.below hb4).more hb4.size)
    have Sy_4 := Lib.hid ((Sy_3.out.below hb4).more hb4.size)
    have Sz_4 := Lib.hid ((Sz_3.out.below hb4).more hb4.size)
    have Sq_4 := Lib.hid ((Sq_3.out.below hb4).more hb4.size)
    have HB4 := Lib.hid (HB3.out.trans (hb4.mono HB3.out.size))
    clear hb4
    go_wp2
    go_ret
    exact ⟨rfl, HB4.out⟩
  · have h1 : sameN l l' = false := by rw [← Bool.not_eq_true]; exact h0
    clear h0
    have HB0 := Lib.hid (Below.refl w.heap.size w)
    go_enter Try.func5, Try.ntmps5
    go_wp2_with fail
    (with_reducible refine (calls_val (v' := .bool false) (quiet_below (sameNumbers_any A A' c c' l l' w _ _ Sx.out Sy.out (by omega) (by omega))) (by rw [h1])).mono ?_)
    rintro e w1 ⟨rfl, hb1⟩
    have Sx_1 := Lib.hid ((Sx.out.below hb1).more hb1.size)
    have Sy_1 := Lib.hid ((Sy.out.below hb1).more hb1.size)
    have HB1 := Lib.hid (HB0.out.trans (hb1.mono HB0.out.size))
    clear hb1
    go_wp2
    go_ret
    exact ⟨rfl, HB1.out⟩

set_option maxRecDepth 100000 in
theorem fnSortAnyOrder_contract (H : Type) (enc : TypeId × Value → H) (W : World) (base : Nat) (args : Array Value) (ds gs : List (DataW H)) (before : List MemPlace)
    (hval : ∀ (j : Nat) t v, Try.f5.params[j]? = some t → args[j]? = some v → Value.okWide Try.prog W .any base t v)
    (hW : DataW.Whole enc Try.prog Try.f5.params.toList Rows.fnSortAnyOrderSpec.vars false W args.toList ds gs before)
    (hsz : (DataW.weightsEach Try.prog (Try.f5.params.toList ++ Rows.fnSortAnyOrderSpec.plain.varTypes Try.prog) (ds ++ gs)).all (· ≤ reachBytes) = true) :
    Calls Try.prog 5 args W fun e W' => ∃ v, e = .returned v ∧ Rows.fnSortAnyOrderSpec.post enc Try.prog Try.f5 false true false false W args v W' := by
  have hW' := hW
  obtain ⟨p, q, hA0, hV, rfl, hfz, hnd⟩ := hW
  have hA : DataW.TrodAll enc Try.prog W 0 (fun _ => true) true Try.f5.params.toList args.toList ds p := hA0
  rw [Try.params5] at hA hval hsz
  obtain ⟨v0, vs0, d0, ds0, p0, q0, hargs, rfl, rfl, h0, r0⟩ := trodAll_cons hA
  obtain ⟨v1, vs1, d1, ds1, p1, q1, rfl, rfl, rfl, h1, r1⟩ := trodAll_cons r0
  obtain ⟨rfl, rfl, rfl⟩ := trodAll_nil r1
  obtain rfl : args = #[v0, v1] := by cases args; simp_all
  obtain ⟨rfl, rfl⟩ := trodVars_none hV
  have k0 := h0
  have lt0 : ∀ x ∈ p0, x.block < W.heap.size := by obtain ⟨m, hm⟩ := k0; exact DataW.trod_lt m _ _ _ hm
  have k1 := h1
  have lt1 : ∀ x ∈ p1, x.block < W.heap.size := by obtain ⟨m, hm⟩ := k1; exact DataW.trod_lt m _ _ _ hm
  obtain ⟨a0, len0, c0, rfl⟩ := okWide_slice Try.underlying22 (hval 0 22 v0 rfl rfl)
  obtain ⟨l0, rfl, hs0, hw0, hd0⟩ := open_nums Try.underlying22 Try.underlying3 (by kernel_rfl) h0
  have hn0 := nums_reach hsz (j := 0) rfl rfl Try.underlying22 (show Try.prog.bytesOf 3 = 8 by kernel_rfl) hd0
  obtain ⟨a1, len1, c1, rfl⟩ := okWide_slice Try.underlying22 (hval 1 22 v1 rfl rfl)
  obtain ⟨l1, rfl, hs1, hw1, hd1⟩ := open_nums Try.underlying22 Try.underlying3 (by kernel_rfl) h1
  have hn1 := nums_reach hsz (j := 1) rfl rfl Try.underlying22 (show Try.prog.bytesOf 3 = 8 by kernel_rfl) hd1
  clear hA0 hsz
  refine (fnSortAnyOrder_any a0 c0 l0 a1 c1 l1 W hs0 hw0 hn0 hs1 hw1 hn1).mono fun e W' ⟨he, bel⟩ => ?_
  subst he
  exact ⟨_, rfl, _, _, _, [], _, [], hW', trodAll_mk1 (shut_bool Try.underlying4 _), (trodAll_cons_mk (Below.trod Try.laidOut (by kernel_rfl) (of_decide_eq_true (by kernel_rfl)) k0 bel lt0) (trodAll_cons_mk (Below.trod Try.laidOut (by kernel_rfl) (of_decide_eq_true (by kernel_rfl)) k1 bel lt1) trodAll_mk0)), rfl, bel.frame _, fun h => by cases h⟩

set_option maxRecDepth 100000 in
theorem fnSortAnyOrder_lifted (os : Os) (started : os.Started) (H : Type) (enc : TypeId × Value → H) :
    ReturnsInHanded {} Try.checked os 5 .any (Rows.fnSortAnyOrderSpec.pre6 enc Try.prog Try.f5 Rows.fnSortAnyOrderRow.domain false) (Rows.fnSortAnyOrderSpec.post enc Try.prog Try.f5 false true false false) := by
  refine returnsInHanded_of_change_sized (C := Try.checked) Try.own started (by kernel_rfl) Try.func5
    (ChangeSpec.witness6 (enc := enc) (C := Try.checked) false ⟨#[], #[.slice none 0 0, .slice none 0 0], []⟩ 8 (by kernel_rfl) (by kernel_rfl) (by kernel_rfl) (by kernel_rfl)) ?_
  intro W base args ds gs before hval hW _ hsz _
  exact fnSortAnyOrder_contract H enc W base args ds gs before hval hW hsz

theorem fnSortAnyOrder_holds : Rows.FnSortAnyOrderSaid :=
  OpenClaim.holds_of_wide 5 Try.f5 rfl rfl rfl rfl rfl rfl rfl ⟨rfl, rfl, rfl, rfl, rfl⟩ rfl rfl rfl rfl rfl (by kernel_rfl) Try.func5 (by kernel_rfl)
    (of_decide_eq_true (by kernel_rfl)) (by unfold Func.isWrapper; first | (rw [if_pos (by decide +kernel)]; kernel_rfl) | (rw [if_neg (by decide +kernel)]; exact ⟨rfl, rfl⟩))
    (fun os started H enc _ => fnSortAnyOrder_lifted os started H enc)
#print axioms fnSortAnyOrder_holds
end Go.Proofs.Ytibdaodneipmjaa
