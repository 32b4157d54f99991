/- For every list of items of at most 1048576 in bulk, FnInitCalls returns true: Init calls Less and Swap with indices of the list alone, neither Push nor Pop, and its swaps make the list that it leaves. Condition: the bound of the given 'upto' statement. -/
import Derived.Test.YtejhccnhkmkchaaLawFns
import Derived.Test.YtejhccnhkmkchaaCallFns
import Derived.Test.YtejhccnhkmkchaaCallLaws
import Derived.Test.YtejhccnhkmkchaaReplay
import Derived.Test.YtejhccnhkmkchaaEqItems
import Derived.Test.YtejhccnhkmkchaaArgs
import Derived.Deep.RegionHeld3
namespace Go.Proofs.Ytejhccnhkmkchaa
set_option linter.unusedVariables false
open Go.RowKit Go.ChangeShapes Go.WideShapes Go.ChangeAt

set_option maxHeartbeats 800000 in
theorem fnInitCalls_any (A : Option Addr) (c : Nat) (l : List (Int × Int)) (w : World) (hs : Sees w w.heap.size 2 A l.length (ics l)) (hn : l.length * 16 ≤ 140737488351232) (hu : l.length ≤ 1048576) :
    Calls Try.prog 4 #[.slice A l.length c] w fun e w' => e = .returned (.bool true) ∧ Below w.heap.size w w' := by
  have Sx := Lib.hid hs
  clear hs
  have hcl : ((initCalls l).2).length ≤ 1649267441664 := initCalls_short l hu
  have ha3 : cntK 3 ((initCalls l).2) = 0 := by have := (initCalls_adds l).pushes; simpa [cntK_nil] using this
  have ha4 : cntK 4 ((initCalls l).2) = 0 := by have := (initCalls_adds l).pops; simpa [cntK_nil] using this
  obtain ⟨CL, hCL⟩ : ∃ x : List Cal, (initCalls l).2 = x := ⟨_, rfl⟩
  rw [hCL] at hcl ha3 ha4
  have HCL := Lib.hid hCL
  clear hCL
  obtain ⟨RO, hRO⟩ : ∃ x : List (Int × Int), ([] : List (Int × Int)) = x := ⟨_, rfl⟩
  have HRO := Lib.hid hRO
  clear hRO
  have HA3 := Lib.hid ha3
  have HA4 := Lib.hid ha4
  clear ha3 ha4
  have HB0 := Lib.hid (Below.refl w.heap.size w)
  go_enter Try.func4, Try.ntmps4
  go_wp2_with fail
  (with_reducible refine (toItems_any A c l w Sx.out (by omega)).mono ?_)
  rintro e w1 ⟨A1, c1, rfl, ho1, hb1⟩
  have Sx_1 := Lib.hid ((Sx.out.below hb1).more hb1.size)
  have HB1 := Lib.hid (HB0.out.trans (hb1.mono HB0.out.size))
  have Sa_1 := Lib.hid (Sees.of_own ho1)
  clear ho1
  clear hb1
  go_wp2_with fail
  (with_reducible refine (newc_eq (initCalls_any A1 c1 l w1 Sa_1.out (by omega)) HCL.out).mono ?_)
  rintro e w2 ⟨A2, c2, rfl, ho2, hb2⟩
  have Sx_2 := Lib.hid ((Sx_1.out.below hb2).more hb2.size)
  have Sa_2 := Lib.hid ((Sa_1.out.below hb2).more hb2.size)
  have HB2 := Lib.hid (HB1.out.trans (hb2.mono HB1.out.size))
  have Sq_2 := Lib.hid (Sees.of_own ho2)
  clear ho2
  clear hb2
  go_wp2_with fail
  (with_reducible refine (toItems_any A c l w2 Sx_2.out (by omega)).mono ?_)
  rintro e w3 ⟨A3, c3, rfl, ho3, hb3⟩
  have Sx_3 := Lib.hid ((Sx_2.out.below hb3).more hb3.size)
  have Sa_3 := Lib.hid ((Sa_2.out.below hb3).more hb3.size)
  have Sq_3 := Lib.hid ((Sq_2.out.below hb3).more hb3.size)
  have HB3 := Lib.hid (HB2.out.trans (hb3.mono HB2.out.size))
  have Sb_3 := Lib.hid (Sees.of_own ho3)
  clear ho3
  clear hb3
  go_wp2_with fail
  (with_reducible refine (replay_any A3 c3 l A2 c2 CL (heapInit l) RO w3 Sb_3.out Sq_3.out (by rw [← HRO.out, ← HCL.out]; exact initCalls_trail l) (by omega)).mono ?_)
  rintro e w4 ⟨A4h, c4h, A4o, c4o, rfl, hh4, ho4, hb4⟩
  have Sx_4 := Lib.hid ((Sx_3.out.below hb4).more hb4.size)
  have Sa_4 := Lib.hid ((Sa_3.out.below hb4).more hb4.size)
  have Sq_4 := Lib.hid ((Sq_3.out.below hb4).more hb4.size)
  have Sb_4 := Lib.hid ((Sb_3.out.below hb4).more hb4.size)
  have HB4 := Lib.hid (HB3.out.trans (hb4.mono HB3.out.size))
  have Sh_4 := Lib.hid (Sees.of_own hh4)
  clear hh4
  have So_4 := Lib.hid (Sees.of_own ho4)
  clear ho4
  clear hb4
  go_wp2_with fail
  (with_reducible refine (calls_val (v' := .int .i64 0) (qCount_any A2 c2 CL 3 w4 Sq_4.out (by omega)) (by rw [HA3.out]; simp)).mono ?_)
  rintro e w5 ⟨rfl, hb5⟩
  have Sx_5 := Lib.hid ((Sx_4.out.below hb5).more hb5.size)
  have Sa_5 := Lib.hid ((Sa_4.out.below hb5).more hb5.size)
  have Sq_5 := Lib.hid ((Sq_4.out.below hb5).more hb5.size)
  have Sb_5 := Lib.hid ((Sb_4.out.below hb5).more hb5.size)
  have Sh_5 := Lib.hid ((Sh_4.out.below hb5).more hb5.size)
  have So_5 := Lib.hid ((So_4.out.below hb5).more hb5.size)
  have HB5 := Lib.hid (HB4.out.trans (hb5.mono HB4.out.size))
  clear hb5
  go_wp2_with fail
  (with_reducible refine (calls_val (v' := .int .i64 0) (qCount_any A2 c2 CL 4 w5 Sq_5.out (by omega)) (by rw [HA4.out]; simp)).mono ?_)
  rintro e w6 ⟨rfl, hb6⟩
  have Sx_6 := Lib.hid ((Sx_5.out.below hb6).more hb6.size)
  have Sa_6 := Lib.hid ((Sa_5.out.below hb6).more hb6.size)
  have Sq_6 := Lib.hid ((Sq_5.out.below hb6).more hb6.size)
  have Sb_6 := Lib.hid ((Sb_5.out.below hb6).more hb6.size)
  have Sh_6 := Lib.hid ((Sh_5.out.below hb6).more hb6.size)
  have So_6 := Lib.hid ((So_5.out.below hb6).more hb6.size)
  have HB6 := Lib.hid (HB5.out.trans (hb6.mono HB5.out.size))
  clear hb6
  go_wp2_with fail
  (with_reducible refine (toItems_any A c l w6 Sx_6.out (by omega)).mono ?_)
  rintro e w7 ⟨A7, c7, rfl, ho7, hb7⟩
  have Sx_7 := Lib.hid ((Sx_6.out.below hb7).more hb7.size)
  have Sa_7 := Lib.hid ((Sa_6.out.below hb7).more hb7.size)
  have Sq_7 := Lib.hid ((Sq_6.out.below hb7).more hb7.size)
  have Sb_7 := Lib.hid ((Sb_6.out.below hb7).more hb7.size)
  have Sh_7 := Lib.hid ((Sh_6.out.below hb7).more hb7.size)
  have So_7 := Lib.hid ((So_6.out.below hb7).more hb7.size)
  have HB7 := Lib.hid (HB6.out.trans (hb7.mono HB6.out.size))
  have Sd_7 := Lib.hid (Sees.of_own ho7)
  clear ho7
  clear hb7
  go_wp2_with fail
  (with_reducible refine (heapInit_any A7 c7 (l) w7 _ Sd_7.out (by omega)).mono ?_)
  rintro e w8 ⟨A8, c8, rfl, ho8, hb8⟩
  have Sx_8 := Lib.hid ((Sx_7.out.below hb8).more hb8.size)
  have Sa_8 := Lib.hid ((Sa_7.out.below hb8).more hb8.size)
  have Sq_8 := Lib.hid ((Sq_7.out.below hb8).more hb8.size)
  have Sb_8 := Lib.hid ((Sb_7.out.below hb8).more hb8.size)
  have Sh_8 := Lib.hid ((Sh_7.out.below hb8).more hb8.size)
  have So_8 := Lib.hid ((So_7.out.below hb8).more hb8.size)
  have Sd_8 := Lib.hid ((Sd_7.out.below hb8).more hb8.size)
  have HB8 := Lib.hid (HB7.out.trans (hb8.mono HB7.out.size))
  have Sr_8 := Lib.hid (Sees.of_own ho8)
  clear ho8
  clear hb8
  go_wp2_with fail
  (with_reducible refine (calls_val (v' := .bool true) (quiet_below (sameItems_any A4h A8 c4h c8 (heapInit l) (heapInit (l)) w8 _ _ Sh_8.out Sr_8.out (by simp only [heapInit_length]; omega) (by simp only [heapInit_length]; omega))) (by rw [decide_eq_true rfl])).mono ?_)
  rintro e w9 ⟨rfl, hb9⟩
  have Sx_9 := Lib.hid ((Sx_8.out.below hb9).more hb9.size)
  have Sa_9 := Lib.hid ((Sa_8.out.below hb9).more hb9.size)
  have Sq_9 := Lib.hid ((Sq_8.out.below hb9).more hb9.size)
  have Sb_9 := Lib.hid ((Sb_8.out.below hb9).more hb9.size)
  have Sh_9 := Lib.hid ((Sh_8.out.below hb9).more hb9.size)
  have So_9 := Lib.hid ((So_8.out.below hb9).more hb9.size)
  have Sd_9 := Lib.hid ((Sd_8.out.below hb9).more hb9.size)
  have Sr_9 := Lib.hid ((Sr_8.out.below hb9).more hb9.size)
  have HB9 := Lib.hid (HB8.out.trans (hb9.mono HB8.out.size))
  clear hb9
  go_wp2
  go_ret
  exact ⟨rfl, HB9.out⟩

set_option maxRecDepth 100000 in
theorem fnInitCalls_contract (H : Type) (enc : TypeId × Value → H) (W : World) (base : Nat) (args : Array Value) (ds gs : List (DataW H)) (before : List MemPlace)
    (hval : ∀ (j : Nat) t v, Try.f4.params[j]? = some t → args[j]? = some v → Value.okWide Try.prog W .any base t v)
    (hW : DataW.Whole enc Try.prog Try.f4.params.toList Rows.fnInitCallsSpec.vars false W args.toList ds gs before)
    (hsz : (DataW.weightsEach Try.prog (Try.f4.params.toList ++ Rows.fnInitCallsSpec.plain.varTypes Try.prog) (ds ++ gs)).all (· ≤ reachBytes) = true)
    (hk : Rows.uptoBulkAll (ds ++ gs) ≤ 1048576) :
    Calls Try.prog 4 args W fun e W' => ∃ v, e = .returned v ∧ Rows.fnInitCallsSpec.post enc Try.prog Try.f4 false true false false W args v W' := by
  have hW' := hW
  obtain ⟨p, q, hA0, hV, rfl, hfz, hnd⟩ := hW
  have hA : DataW.TrodAll enc Try.prog W 0 (fun _ => true) true Try.f4.params.toList args.toList ds p := hA0
  rw [Try.params4] at hA hval hsz
  obtain ⟨v0, vs0, d0, ds0, p0, q0, hargs, rfl, rfl, h0, r0⟩ := trodAll_cons hA
  obtain ⟨rfl, rfl, rfl⟩ := trodAll_nil r0
  obtain rfl : args = #[v0] := by cases args; simp_all
  obtain ⟨rfl, rfl⟩ := trodVars_none hV
  have k0 := h0
  have lt0 : ∀ x ∈ p0, x.block < W.heap.size := by obtain ⟨m, hm⟩ := k0; exact DataW.trod_lt m _ _ _ hm
  obtain ⟨a0, len0, c0, rfl⟩ := okWide_slice Try.underlying22 (hval 0 22 v0 rfl rfl)
  obtain ⟨l0, rfl, hs0, hd0⟩ := open_items Try.underlying22 Try.underlying35 (by kernel_rfl) rfl rfl (by kernel_rfl) (by kernel_rfl) Try.underlying3 Try.underlying3 h0
  have hn0 := items_reach hsz (j := 0) rfl rfl Try.underlying22 (by kernel_rfl) hd0
  have hu0 := bulk_slice hd0
  simp only [List.append_nil, Rows.uptoBulkAll] at hk
  clear hA0 hsz
  refine (fnInitCalls_any a0 c0 l0 W hs0 hn0 (by omega)).mono fun e W' ⟨he, bel⟩ => ?_
  subst he
  exact ⟨_, rfl, _, _, _, [], _, [], hW', trodAll_mk1 (shut_bool Try.underlying4 _), (trodAll_cons_mk (Below.trod Try.laidOut (by kernel_rfl) (of_decide_eq_true (by kernel_rfl)) k0 bel lt0) trodAll_mk0), rfl, bel.frame _, fun h => by cases h⟩

set_option maxRecDepth 100000 in
theorem fnInitCalls_lifted (os : Os) (started : os.Started) (H : Type) (enc : TypeId × Value → H) (F : Stop.Interp) :
    ReturnsInHanded {} Try.checked os 4 .any ((Rows.OpenSpec.upto Rows.fnInitCallsSpec).pre6 enc Try.prog Try.f4 Rows.fnInitCallsUptoRow.domain false) (((Rows.OpenSpec.upto Rows.fnInitCallsSpec).at F).post enc Try.prog Try.f4 false true false false) := by
  refine returnsInHanded_of_cond_sized (C := Try.checked) (s := (Rows.OpenSpec.upto Rows.fnInitCallsSpec)) (k := Rows.uptoSmall) rfl Try.own started (by kernel_rfl) Try.func4
    (OpenSpec.witness (enc := enc) (C := Try.checked) (s := (Rows.OpenSpec.upto Rows.fnInitCallsSpec)) (k := Rows.uptoSmall) rfl false ⟨#[], #[.slice none 0 0], []⟩ 8 (by kernel_rfl) (by kernel_rfl) (by kernel_rfl)
      (x := ([.nil], [], [])) (by kernel_rfl) rfl (by kernel_rfl)) ?_
  intro W base args ds gs before hval hW _ hk hsz _
  exact fnInitCalls_contract H enc W base args ds gs before hval hW hsz (of_decide_eq_true hk)

theorem fnInitCalls_holds : Rows.FnInitCallsUptoSaid :=
  OpenClaim.holds_of_cond 4 Try.f4 rfl rfl rfl rfl rfl rfl rfl ⟨rfl, rfl, rfl, rfl, rfl⟩ rfl rfl rfl rfl rfl (by kernel_rfl) Try.func4 (by kernel_rfl)
    (of_decide_eq_true (by kernel_rfl)) (by unfold Func.isWrapper; first | (rw [if_pos (by decide +kernel)]; kernel_rfl) | (rw [if_neg (by decide +kernel)]; exact ⟨rfl, rfl⟩))
    (fun os started H enc _ F => fnInitCalls_lifted os started H enc F)
#print axioms fnInitCalls_holds
end Go.Proofs.Ytejhccnhkmkchaa
