/- For every list of numbers, FnMirroredHeap returns true: a heap that keeps its elements from the end has the same pops. No condition. -/
import Derived.Test.YtjnlolidjbbddaaSortInts
import Derived.Test.YtjnlolidjbbddaaSortMirror
import Derived.Test.YtjnlolidjbbddaaArgs
import Derived.Deep.RegionHeld3
import Derived.Deep.QuietTactic
import Derived.BigQuiet
namespace Go.Proofs.Ytjnlolidjbbddaa
set_option linter.unusedVariables false
open Go.RowKit Go.ChangeShapes Go.WideShapes Go.ChangeAt

set_option maxHeartbeats 400000 in
theorem fnMirroredHeap_any (A : Option Addr) (c : Nat) (l : List Int) (w : World) (hs : Sees w w.heap.size 1 A l.length (l.map (Value.int .i64))) (hw : ∀ x ∈ l, (Lit.int .i64 x).wf = true) (hn : l.length * 8 ≤ 140737488351232) :
    Calls Try.prog 4 #[.slice A l.length c] w fun e w' => e = .returned (.bool true) ∧ Below w.heap.size w w' := by
  have Sx := Lib.hid hs
  clear hs
  obtain ⟨Y, hY⟩ : ∃ x : List Int, sortF ilt 0 l = x := ⟨_, rfl⟩
  have HY := Lib.hid hY
  clear hY
  have NY : Y.length = l.length := by rw [← HY.out]; exact sortF_length 0 ilt l
  have NYa := Nat.le_of_eq NY
  have NYb := Nat.le_of_eq NY.symm
  clear NY
  have hlen : ((Y.length : Int) == (l.length : Int)) = true := by rw [beq_iff_eq]; omega
  have HB0 := Lib.hid (Below.refl w.heap.size w)
  go_enter Try.func4, Try.ntmps4
  go_wp2_with fail
  (with_reducible refine (newn_eq (sortInts_any A c l w Sx.out (by omega)) HY.out).mono ?_)
  rintro e w1 ⟨A1, c1, rfl, ho1, hb1⟩
  have Sx_1 := Lib.hid ((Sx.out.below hb1).more hb1.size)
  have HB1 := Lib.hid (HB0.out.trans (hb1.mono HB0.out.size))
  have Sy_1 := Lib.hid (Sees.of_own ho1)
  clear ho1
  clear hb1
  go_wp2_with fail
  (with_reducible refine (newn_eq (sortMirrored_any A c l w1 Sx_1.out (by omega)) HY.out).mono ?_)
  rintro e w2 ⟨A2, c2, rfl, ho2, hb2⟩
  have Sx_2 := Lib.hid ((Sx_1.out.below hb2).more hb2.size)
  have Sy_2 := Lib.hid ((Sy_1.out.below hb2).more hb2.size)
  have HB2 := Lib.hid (HB1.out.trans (hb2.mono HB1.out.size))
  have Sz_2 := Lib.hid (Sees.of_own ho2)
  clear ho2
  clear hb2
  go_wp2_with fail
  (with_reducible refine (calls_val (v' := .bool true) (quiet_below (sameInts_any A1 A2 c1 c2 Y Y w2 _ _ Sy_2.out Sz_2.out (by omega) (by omega))) (by simp)).mono ?_)
  rintro e w3 ⟨rfl, hb3⟩
  have Sx_3 := Lib.hid ((Sx_2.out.below hb3).more hb3.size)
  have Sy_3 := Lib.hid ((Sy_2.out.below hb3).more hb3.size)
  have Sz_3 := Lib.hid ((Sz_2.out.below hb3).more hb3.size)
  have HB3 := Lib.hid (HB2.out.trans (hb3.mono HB2.out.size))
  clear hb3
  go_wp2
  go_ret
  exact ⟨rfl, HB3.out⟩

set_option maxRecDepth 100000 in
theorem fnMirroredHeap_contract (H : Type) (enc : TypeId × Value → H) (W : World) (base : Nat) (args : Array Value) (ds gs : List (DataW H)) (before : List MemPlace)
    (hval : ∀ (j : Nat) t v, Try.f4.params[j]? = some t → args[j]? = some v → Value.okWide Try.prog W .any base t v)
    (hW : DataW.Whole enc Try.prog Try.f4.params.toList Rows.fnMirroredHeapSpec.vars false W args.toList ds gs before)
    (hsz : (DataW.weightsEach Try.prog (Try.f4.params.toList ++ Rows.fnMirroredHeapSpec.plain.varTypes Try.prog) (ds ++ gs)).all (· ≤ reachBytes) = true) :
    Calls Try.prog 4 args W fun e W' => ∃ v, e = .returned v ∧ Rows.fnMirroredHeapSpec.post enc Try.prog Try.f4 false true false false W args v W' := by
  have hW' := hW
  obtain ⟨p, q, hA0, hV, rfl, hfz, hnd⟩ := hW
  have hA : DataW.TrodAll enc Try.prog W 0 (fun _ => true) true Try.f4.params.toList args.toList ds p := hA0
  rw [Try.params4] at hA hval hsz
  obtain ⟨v0, vs0, d0, ds0, p0, q0, hargs, rfl, rfl, h0, r0⟩ := trodAll_cons hA
  obtain ⟨rfl, rfl, rfl⟩ := trodAll_nil r0
  obtain rfl : args = #[v0] := by cases args; simp_all
  obtain ⟨rfl, rfl⟩ := trodVars_none hV
  have k0 := h0
  have lt0 : ∀ x ∈ p0, x.block < W.heap.size := by obtain ⟨m, hm⟩ := k0; exact DataW.trod_lt m _ _ _ hm
  obtain ⟨a0, len0, c0, rfl⟩ := okWide_slice Try.underlying22 (hval 0 22 v0 rfl rfl)
  obtain ⟨l0, rfl, hs0, hw0, hd0⟩ := open_nums Try.underlying22 Try.underlying3 (by kernel_rfl) h0
  have hn0 := nums_reach hsz (j := 0) rfl rfl Try.underlying22 (show Try.prog.bytesOf 3 = 8 by kernel_rfl) hd0
  clear hA0 hsz
  refine (fnMirroredHeap_any a0 c0 l0 W hs0 hw0 hn0).mono fun e W' ⟨he, bel⟩ => ?_
  subst he
  exact ⟨_, rfl, _, _, _, [], _, [], hW', trodAll_mk1 (shut_bool Try.underlying4 _), (trodAll_cons_mk (Below.trod Try.laidOut (by kernel_rfl) (of_decide_eq_true (by kernel_rfl)) k0 bel lt0) trodAll_mk0), rfl, bel.frame _, fun h => by cases h⟩

set_option maxRecDepth 100000 in
theorem fnMirroredHeap_lifted (os : Os) (started : os.Started) (H : Type) (enc : TypeId × Value → H) :
    ReturnsInHanded {} Try.checked os 4 .any (Rows.fnMirroredHeapSpec.pre6 enc Try.prog Try.f4 Rows.fnMirroredHeapRow.domain false) (Rows.fnMirroredHeapSpec.post enc Try.prog Try.f4 false true false false) := by
  refine returnsInHanded_of_change_sized (C := Try.checked) Try.own started (by kernel_rfl) Try.func4
    (ChangeSpec.witness6 (enc := enc) (C := Try.checked) false ⟨#[], #[.slice none 0 0], []⟩ 8 (by kernel_rfl) (by kernel_rfl) (by kernel_rfl) (by kernel_rfl)) ?_
  intro W base args ds gs before hval hW _ hsz _
  exact fnMirroredHeap_contract H enc W base args ds gs before hval hW hsz

theorem fnMirroredHeap_holds : Rows.FnMirroredHeapSaid :=
  OpenClaim.holds_of_wide 4 Try.f4 rfl rfl rfl rfl rfl rfl rfl ⟨rfl, rfl, rfl, rfl, rfl⟩ rfl rfl rfl rfl rfl (by kernel_rfl) Try.func4 (by kernel_rfl)
    (of_decide_eq_true (by kernel_rfl)) (by unfold Func.isWrapper; first | (rw [if_pos (by decide +kernel)]; kernel_rfl) | (rw [if_neg (by decide +kernel)]; exact ⟨rfl, rfl⟩))
    (fun os started H enc _ => fnMirroredHeap_lifted os started H enc)
#print axioms fnMirroredHeap_holds
end Go.Proofs.Ytjnlolidjbbddaa
