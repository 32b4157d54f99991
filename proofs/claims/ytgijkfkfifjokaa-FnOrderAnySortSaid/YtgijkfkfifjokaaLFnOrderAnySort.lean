/- For every order and every list of numbers, FnOrderAnySort returns true: the pops after Init by any relation are the same elements. No condition. -/
import Derived.Test.YtgijkfkfifjokaaByOrder
import Derived.Test.YtgijkfkfifjokaaOrders
import Derived.Test.YtgijkfkfifjokaaOrderArgs
import Derived.Test.YtgijkfkfifjokaaArgs
import Derived.Deep.RegionHeld3
import Derived.Deep.QuietTactic
import Derived.BigQuiet
namespace Go.Proofs.Ytgijkfkfifjokaa
set_option linter.unusedVariables false
open Go.RowKit Go.ChangeShapes Go.WideShapes Go.ChangeAt

set_option maxHeartbeats 800000 in
theorem fnOrderAnySort_any (sz : Int) (Ab : Option Addr) (cb : Nat) (bs : List Bool) (A : Option Addr) (c : Nat) (l : List Int) (w : World) (wx : (Lit.int .i64 sz).wf = true) (hsb : Sees w w.heap.size 1 Ab bs.length (bs.map Value.bool)) (hnb : bs.length ≤ 140737488351232) (hs : Sees w w.heap.size 1 A l.length (l.map (Value.int .i64))) (hw : ∀ x ∈ l, (Lit.int .i64 x).wf = true) (hn : l.length * 8 ≤ 140737488351232) :
    Calls Try.prog 5 #[.agg #[.int .i64 sz, .slice Ab bs.length cb], .slice A l.length c] w fun e w' => e = .returned (.bool true) ∧ Below w.heap.size w w' := by
  have hwz := wf_fits wx
  have HF := Lib.hid (show Fits l from fun x hx => wf_fits (hw x hx))
  clear wx hw
  have Sb := Lib.hid hsb
  clear hsb
  have Sx := Lib.hid hs
  clear hs
  obtain ⟨Y, hY⟩ : ∃ x : List Int, sortF (bef sz bs) 0 l = x := ⟨_, rfl⟩
  have HY := Lib.hid hY
  clear hY
  have NY : Y.length = l.length := by rw [← HY.out]; exact sortF_length _ _ l
  have NYa := Nat.le_of_eq NY
  have NYb := Nat.le_of_eq NY.symm
  clear NY
  have HP := Lib.hid (show l.Perm Y by rw [← HY.out]; exact (sortF_perm _ _ l).symm)
  have HB0 := Lib.hid (Below.refl w.heap.size w)
  go_enter Try.func5, Try.ntmps5
  go_wp2_with fail
  obtain ⟨W1, hW1⟩ : ∃ W : World, W = (w.alloc (.cells #[.int .i64 sz, .slice Ab bs.length cb] 24)) := ⟨_, rfl⟩
  rw [← hW1]
  have hb1 : Below w.heap.size w W1 := by rw [hW1]; exact ((Below.refl _ _).alloc (Nat.le_refl _) _)
  have hko1 : Blk W1 (w.heap.size) 24 #[.int .i64 sz, .slice Ab bs.length cb] := by rw [hW1]; exact Blk.new _ _ _
  have Sb_1 := Lib.hid ((Sb.out.below hb1).more hb1.size)
  have Sx_1 := Lib.hid ((Sx.out.below hb1).more hb1.size)
  have HB1 := Lib.hid (HB0.out.trans (hb1.mono HB0.out.size))
  have o0_1 : W1.cell? ⟨w.heap.size, 0, none⟩ = some (.int .i64 sz) := hko1.cell 0
  have o1_1 : W1.cell? ⟨w.heap.size, 1, none⟩ = some (.slice Ab bs.length cb) := hko1.cell 1
  have lto_1 : w.heap.size < W1.heap.size := hko1.lt
  clear hko1
  clear hW1 hb1
  (with_reducible refine (toOrder_any sz Ab cb bs W1 Sb_1.out (by omega)).mono ?_)
  rintro e w2 ⟨A2, c2, rfl, ho2, hb2⟩
  have Sb_2 := Lib.hid ((Sb_1.out.below hb2).more hb2.size)
  have Sx_2 := Lib.hid ((Sx_1.out.below hb2).more hb2.size)
  have o0_2 := (hb2.cell (p := ⟨w.heap.size, 0, none⟩) lto_1).trans o0_1
  have o1_2 := (hb2.cell (p := ⟨w.heap.size, 1, none⟩) lto_1).trans o1_1
  have lto_2 := Nat.lt_of_lt_of_le lto_1 hb2.size
  have HB2 := Lib.hid (HB1.out.trans (hb2.mono HB1.out.size))
  have Sp_2 := Lib.hid (Sees.of_own ho2)
  clear ho2
  clear hb2
  go_wp2_with fail
  (with_reducible refine (newn_eq (sortByOrder_any sz A2 c2 bs A c l w2 hwz Sp_2.out (by omega) Sx_2.out HF.out (by omega)) HY.out).mono ?_)
  rintro e w3 ⟨A3, c3, rfl, ho3, hb3⟩
  have Sb_3 := Lib.hid ((Sb_2.out.below hb3).more hb3.size)
  have Sx_3 := Lib.hid ((Sx_2.out.below hb3).more hb3.size)
  have Sp_3 := Lib.hid ((Sp_2.out.below hb3).more hb3.size)
  have o0_3 := (hb3.cell (p := ⟨w.heap.size, 0, none⟩) lto_2).trans o0_2
  have o1_3 := (hb3.cell (p := ⟨w.heap.size, 1, none⟩) lto_2).trans o1_2
  have lto_3 := Nat.lt_of_lt_of_le lto_2 hb3.size
  have HB3 := Lib.hid (HB2.out.trans (hb3.mono HB2.out.size))
  have Sy_3 := Lib.hid (Sees.of_own ho3)
  clear ho3
  clear hb3
  go_wp2_with fail
  (with_reducible refine (calls_val (v' := .bool true) (quiet_below (sameNumbers_any A A3 c c3 l Y w3 _ _ Sx_3.out Sy_3.out (by omega) (by omega))) (by rw [sameN_perm HP.out])).mono ?_)
  rintro e w4 ⟨rfl, hb4⟩
  have Sb_4 := Lib.hid ((Sb_3.out.below hb4).more hb4.size)
  have Sx_4 := Lib.hid ((Sx_3.out.below hb4).more hb4.size)
  have Sp_4 := Lib.hid ((Sp_3.out.below hb4).more hb4.size)
  have Sy_4 := Lib.hid ((Sy_3.out.below hb4).more hb4.size)
  have o0_4 := (hb4.cell (p := ⟨w.heap.size, 0, none⟩) lto_3).trans o0_3
  have o1_4 := (hb4.cell (p := ⟨w.heap.size, 1, none⟩) lto_3).trans o1_3
  have lto_4 := Nat.lt_of_lt_of_le lto_3 hb4.size
  have HB4 := Lib.hid (HB3.out.trans (hb4.mono HB3.out.size))
  clear hb4
  go_wp2
  go_ret
  exact ⟨rfl, HB4.out⟩

set_option maxRecDepth 100000 in
theorem fnOrderAnySort_contract (H : Type) (enc : TypeId × Value → H) (W : World) (base : Nat) (args : Array Value) (ds gs : List (DataW H)) (before : List MemPlace)
    (hval : ∀ (j : Nat) t v, Try.f5.params[j]? = some t → args[j]? = some v → Value.okWide Try.prog W .any base t v)
    (hW : DataW.Whole enc Try.prog Try.f5.params.toList Rows.fnOrderAnySortSpec.vars false W args.toList ds gs before)
    (hsz : (DataW.weightsEach Try.prog (Try.f5.params.toList ++ Rows.fnOrderAnySortSpec.plain.varTypes Try.prog) (ds ++ gs)).all (· ≤ reachBytes) = true) :
    Calls Try.prog 5 args W fun e W' => ∃ v, e = .returned v ∧ Rows.fnOrderAnySortSpec.post enc Try.prog Try.f5 false true false false W args v W' := by
  have hW' := hW
  obtain ⟨p, q, hA0, hV, rfl, hfz, hnd⟩ := hW
  have hA : DataW.TrodAll enc Try.prog W 0 (fun _ => true) true Try.f5.params.toList args.toList ds p := hA0
  rw [Try.params5] at hA hval hsz
  obtain ⟨v0, vs0, d0, ds0, p0, q0, hargs, rfl, rfl, h0, r0⟩ := trodAll_cons hA
  obtain ⟨v1, vs1, d1, ds1, p1, q1, rfl, rfl, rfl, h1, r1⟩ := trodAll_cons r0
  obtain ⟨rfl, rfl, rfl⟩ := trodAll_nil r1
  obtain rfl : args = #[v0, v1] := by cases args; simp_all
  obtain ⟨rfl, rfl⟩ := trodVars_none hV
  have k0 := h0
  have lt0 : ∀ x ∈ p0, x.block < W.heap.size := by obtain ⟨m, hm⟩ := k0; exact DataW.trod_lt m _ _ _ hm
  have k1 := h1
  have lt1 : ∀ x ∈ p1, x.block < W.heap.size := by obtain ⟨m, hm⟩ := k1; exact DataW.trod_lt m _ _ _ hm
  obtain ⟨x0, a0, c0, l0, rfl, wx0, hs0, hn0⟩ := open_order Try.underlying24 (by kernel_rfl) (by kernel_rfl) Try.underlying3 Try.underlying22 Try.underlying4 (by kernel_rfl) (by kernel_rfl) (hval 0 24 v0 rfl rfl) h0 hsz (j := 0) rfl rfl
  obtain ⟨a1, len1, c1, rfl⟩ := okWide_slice Try.underlying25 (hval 1 25 v1 rfl rfl)
  obtain ⟨l1, rfl, hs1, hw1, hd1⟩ := open_nums Try.underlying25 Try.underlying3 (by kernel_rfl) h1
  have hn1 := nums_reach hsz (j := 1) rfl rfl Try.underlying25 (show Try.prog.bytesOf 3 = 8 by kernel_rfl) hd1
  clear hA0 hsz
  refine (fnOrderAnySort_any x0 a0 c0 l0 a1 c1 l1 W wx0 hs0 hn0 hs1 hw1 hn1).mono fun e W' ⟨he, bel⟩ => ?_
  subst he
  exact ⟨_, rfl, _, _, _, [], _, [], hW', trodAll_mk1 (shut_bool Try.underlying4 _), (trodAll_cons_mk (Below.trod Try.laidOut (by kernel_rfl) (of_decide_eq_true (by kernel_rfl)) k0 bel lt0) (trodAll_cons_mk (Below.trod Try.laidOut (by kernel_rfl) (of_decide_eq_true (by kernel_rfl)) k1 bel lt1) trodAll_mk0)), rfl, bel.frame _, fun h => by cases h⟩

set_option maxRecDepth 100000 in
theorem fnOrderAnySort_lifted (os : Os) (started : os.Started) (H : Type) (enc : TypeId × Value → H) :
    ReturnsInHanded {} Try.checked os 5 .any (Rows.fnOrderAnySortSpec.pre6 enc Try.prog Try.f5 Rows.fnOrderAnySortRow.domain false) (Rows.fnOrderAnySortSpec.post enc Try.prog Try.f5 false true false false) := by
  refine returnsInHanded_of_change_sized (C := Try.checked) Try.own started (by kernel_rfl) Try.func5
    (ChangeSpec.witness6 (enc := enc) (C := Try.checked) false ⟨#[], #[.agg #[.int .i64 0, .slice none 0 0], .slice none 0 0], []⟩ 8 (by kernel_rfl) (by kernel_rfl) (by kernel_rfl) (by kernel_rfl)) ?_
  intro W base args ds gs before hval hW _ hsz _
  exact fnOrderAnySort_contract H enc W base args ds gs before hval hW hsz

theorem fnOrderAnySort_holds : Rows.FnOrderAnySortSaid :=
  OpenClaim.holds_of_wide 5 Try.f5 rfl rfl rfl rfl rfl rfl rfl ⟨rfl, rfl, rfl, rfl, rfl⟩ rfl rfl rfl rfl rfl (by kernel_rfl) Try.func5 (by kernel_rfl)
    (of_decide_eq_true (by kernel_rfl)) (by unfold Func.isWrapper; first | (rw [if_pos (by decide +kernel)]; kernel_rfl) | (rw [if_neg (by decide +kernel)]; exact ⟨rfl, rfl⟩))
    (fun os started H enc _ => fnOrderAnySort_lifted os started H enc)
#print axioms fnOrderAnySort_holds
end Go.Proofs.Ytgijkfkfifjokaa
