/- For every list of items, FnInit returns true: after Init the list has heap order and the same elements. No condition. -/
import Derived.Test.YtamilehiahgjaaaSameItems
import Derived.Test.YtamilehiahgjaaaPlain
import Derived.Test.YtamilehiahgjaaaItemLaws
import Derived.Test.YtamilehiahgjaaaArgs
namespace Go.Proofs.Ytamilehiahgjaaa
open Go.RowKit Go.ChangeShapes Go.WideShapes Go.ChangeAt

set_option maxHeartbeats 400000 in
theorem fnInit_any (A : Option Addr) (c : Nat) (l : List (Int × Int)) (w : World) (hs : Sees w w.heap.size 2 A l.length (ics l)) (hn : l.length * 16 ≤ 140737488351232) :
    Calls Try.prog 3 #[.slice A l.length c] w fun e w' => e = .returned (.bool true) ∧ Below w.heap.size w w' := by
  have HS := Lib.hid hs
  clear hs
  go_enter Try.func3, Try.ntmps3
  go_wp2_with fail
  refine (toItems_any A c l w HS.out (by omega)).mono ?_
  rintro e w1 ⟨A1, c1, rfl, ho1, hb1⟩
  have HO1 := Lib.hid ho1
  have HB1 := Lib.hid hb1
  clear ho1 hb1
  go_wp2_with fail
  refine (heapInit_any A1 c1 l w1 w1.heap.size (Sees.of_own HO1.out) (by omega)).mono ?_
  rintro e w2 ⟨A2, c2, rfl, ho2, hb2⟩
  have HO2 := Lib.hid ho2
  have HB2 := Lib.hid (HB1.out.trans (hb2.mono HB1.out.size))
  clear ho2 hb2
  have hl2 : (heapInit l).length = l.length := heapInit_length l
  have HL2 := Lib.hid hl2
  clear hl2
  go_wp2_with fail
  refine (heapOrdered_any A2 c2 (heapInit l) w2 w2.heap.size (Sees.of_own HO2.out) (by rw [HL2.out]; omega)).mono ?_
  rintro e w3 ⟨rfl, q, rfl⟩
  rw [heapInit_ord]
  go_wp2_with fail
  refine (toItems_any A c l _ ((HS.out.below (below_drewN HB2.out q)).more HB2.out.size) (by omega)).mono ?_
  rintro e w4 ⟨A4, c4, rfl, ho4, hb4⟩
  have HO4 := Lib.hid ho4
  have HB4 := Lib.hid ((below_drewN HB2.out q).trans (hb4.mono HB2.out.size))
  have HS2 := Lib.hid ((((Sees.of_own HO2.out).drewN q).below hb4).more hb4.size)
  clear ho4 hb4
  go_wp2_with fail
  refine (sameElements_any A2 A4 c2 c4 (heapInit l) l w4 HS2.out (Sees.of_own HO4.out) (by rw [HL2.out]; omega) (by omega)).mono ?_
  rintro e w5 ⟨rfl, hb5⟩
  rw [sameB_perm (heapInit_perm l)]
  go_wp2
  go_ret
  exact ⟨rfl, HB4.out.trans (hb5.mono HB4.out.size)⟩

set_option maxRecDepth 100000 in
theorem fnInit_contract (H : Type) (enc : TypeId × Value → H) (W : World) (base : Nat) (args : Array Value) (ds gs : List (DataW H)) (before : List MemPlace)
    (hval : ∀ (j : Nat) t v, Try.f3.params[j]? = some t → args[j]? = some v → Value.okWide Try.prog W .any base t v)
    (hW : DataW.Whole enc Try.prog Try.f3.params.toList Rows.fnInitSpec.vars false W args.toList ds gs before)
    (hsz : (DataW.weightsEach Try.prog (Try.f3.params.toList ++ Rows.fnInitSpec.plain.varTypes Try.prog) (ds ++ gs)).all (· ≤ reachBytes) = true) :
    Calls Try.prog 3 args W fun e W' => ∃ v, e = .returned v ∧ Rows.fnInitSpec.post enc Try.prog Try.f3 false true false false W args v W' := by
  have hW' := hW
  obtain ⟨p, q, hA0, hV, rfl, hfz, hnd⟩ := hW
  have hA : DataW.TrodAll enc Try.prog W 0 (fun _ => true) true Try.f3.params.toList args.toList ds p := hA0
  rw [Try.params3] at hA hval hsz
  obtain ⟨v0, vs0, d0, ds0, p0, q0, hargs, rfl, rfl, h0, r0⟩ := trodAll_cons hA
  obtain ⟨rfl, rfl, rfl⟩ := trodAll_nil r0
  obtain rfl : args = #[v0] := by cases args; simp_all
  obtain ⟨rfl, rfl⟩ := trodVars_none hV
  have k0 := h0
  have lt0 : ∀ x ∈ p0, x.block < W.heap.size := by obtain ⟨m, hm⟩ := k0; exact DataW.trod_lt m _ _ _ hm
  obtain ⟨a0, len0, c0, rfl⟩ := okWide_slice Try.underlying22 (hval 0 22 v0 rfl rfl)
  obtain ⟨l0, rfl, hs0, hd0⟩ := open_items Try.underlying22 Try.underlying30 (by kernel_rfl) rfl rfl (by kernel_rfl) (by kernel_rfl) Try.underlying3 Try.underlying3 h0
  have hn0 := items_reach hsz (j := 0) rfl rfl Try.underlying22 (by kernel_rfl) hd0
  clear hA0 hsz
  refine (fnInit_any a0 c0 l0 W hs0 hn0).mono fun e W' ⟨he, bel⟩ => ?_
  subst he
  exact ⟨_, rfl, _, _, _, [], _, [], hW', trodAll_mk1 (shut_bool Try.underlying4 _), (trodAll_cons_mk (Below.trod Try.laidOut (by kernel_rfl) (of_decide_eq_true (by kernel_rfl)) k0 bel lt0) trodAll_mk0), rfl, bel.frame _, fun h => by cases h⟩

set_option maxRecDepth 100000 in
theorem fnInit_lifted (os : Os) (started : os.Started) (H : Type) (enc : TypeId × Value → H) :
    ReturnsInHanded {} Try.checked os 3 .any (Rows.fnInitSpec.pre6 enc Try.prog Try.f3 Rows.fnInitRow.domain false) (Rows.fnInitSpec.post enc Try.prog Try.f3 false true false false) := by
  refine returnsInHanded_of_change_sized (C := Try.checked) Try.own started (by kernel_rfl) Try.func3
    (ChangeSpec.witness6 (enc := enc) (C := Try.checked) false ⟨#[], #[.slice none 0 0], []⟩ 8 (by kernel_rfl) (by kernel_rfl) (by kernel_rfl) (by kernel_rfl)) ?_
  intro W base args ds gs before hval hW _ hsz _
  exact fnInit_contract H enc W base args ds gs before hval hW hsz

theorem fnInit_holds : Rows.FnInitSaid :=
  OpenClaim.holds_of_wide 3 Try.f3 rfl rfl rfl rfl rfl rfl rfl ⟨rfl, rfl, rfl, rfl, rfl⟩ rfl rfl rfl rfl rfl (by kernel_rfl) Try.func3 (by kernel_rfl)
    (of_decide_eq_true (by kernel_rfl)) (by unfold Func.isWrapper; first | (rw [if_pos (by decide +kernel)]; kernel_rfl) | (rw [if_neg (by decide +kernel)]; exact ⟨rfl, rfl⟩))
    (fun os started H enc _ => fnInit_lifted os started H enc)
#print axioms fnInit_holds
end Go.Proofs.Ytamilehiahgjaaa
