/- For every list of numbers and every k, FnFirstPops returns true: the first k pops are the first k of the sorted list. No condition. -/
import Derived.Test.YtibdaodneipmjaaSortInts
import Derived.Test.YtibdaodneipmjaaFirstLaws
import Derived.Test.YtibdaodneipmjaaArgs
import Derived.Deep.RegionHeld3
import Derived.Deep.QuietTactic
import Derived.BigQuiet
namespace Go.Proofs.Ytibdaodneipmjaa
set_option linter.unusedVariables false
open Go.RowKit Go.ChangeShapes Go.WideShapes Go.ChangeAt

set_option maxHeartbeats 800000 in
theorem fnFirstPops_any (A : Option Addr) (c : Nat) (l : List Int) (kk : Int) (w : World) (hs : Sees w w.heap.size 1 A l.length (l.map (Value.int .i64))) (hw : ∀ x ∈ l, (Lit.int .i64 x).wf = true) (hn : l.length * 8 ≤ 140737488351232) (hw_kk : (Lit.int .i64 kk).wf = true) :
    Calls Try.prog 7 #[.slice A l.length c, .int .i64 kk] w fun e w' => e = .returned (.bool true) ∧ Below w.heap.size w w' := by
  have Sx := Lib.hid hs
  clear hs
  by_cases h0 : kk < 0
  · obtain ⟨Y, hY⟩ : ∃ x : List Int, firstF kk l = x := ⟨_, rfl⟩
    have HY := Lib.hid hY
    clear hY
    have NY0 : Y.length = 0 := by rw [← HY.out, firstF_length]; omega
    have hz : ((Y.length : Int) == 0) = true := by rw [beq_iff_eq]; omega
    clear NY0
    have ht : decide (kk < 0) = true := decide_eq_true h0
    have HB0 := Lib.hid (Below.refl w.heap.size w)
    go_enter Try.func7, Try.ntmps7
    go_wp2_with fail
    (with_reducible refine (newn_eq (firstInts_any A c l kk w Sx.out (by omega)) HY.out).mono ?_)
    rintro e w1 ⟨A1, c1, rfl, ho1, hb1⟩
    have Sx_1 := Lib.hid ((Sx.out.below hb1).more hb1.size)
    have HB1 := Lib.hid (HB0.out.trans (hb1.mono HB0.out.size))
    have Sy_1 := Lib.hid (Sees.of_own ho1)
    clear ho1
    clear hb1
    go_wp2
    go_ret
    exact ⟨rfl, HB1.out⟩
  · obtain ⟨Y, hY⟩ : ∃ x : List Int, firstF kk l = x := ⟨_, rfl⟩
    have HY := Lib.hid hY
    clear hY
    have NYa : Y.length ≤ l.length := by rw [← HY.out, firstF_length]; omega
    have HB0 := Lib.hid (Below.refl w.heap.size w)
    go_enter Try.func7, Try.ntmps7
    go_wp2_with fail
    (with_reducible refine (newn_eq (firstInts_any A c l kk w Sx.out (by omega)) HY.out).mono ?_)
    rintro e w1 ⟨A1, c1, rfl, ho1, hb1⟩
    have Sx_1 := Lib.hid ((Sx.out.below hb1).more hb1.size)
    have HB1 := Lib.hid (HB0.out.trans (hb1.mono HB0.out.size))
    have Sy_1 := Lib.hid (Sees.of_own ho1)
    clear ho1
    clear hb1
    have ht : decide (kk < 0) = false := decide_eq_false (by omega)
    obtain ⟨Z, hZ⟩ : ∃ x : List Int, sortF ilt 0 l = x := ⟨_, rfl⟩
    have HZ := Lib.hid hZ
    clear hZ
    have NZ : Z.length = l.length := by rw [← HZ.out]; exact sortF_length 0 ilt l
    have NZa := Nat.le_of_eq NZ
    have NZb := Nat.le_of_eq NZ.symm
    clear NZ
    go_wp2_with fail
    (with_reducible refine (newn_eq (sortInts_any A c l w1 Sx_1.out (by omega)) HZ.out).mono ?_)
    rintro e w2 ⟨A2, c2, rfl, ho2, hb2⟩
    have Sx_2 := Lib.hid ((Sx_1.out.below hb2).more hb2.size)
    have Sy_2 := Lib.hid ((Sy_1.out.below hb2).more hb2.size)
    have HB2 := Lib.hid (HB1.out.trans (hb2.mono HB1.out.size))
    have Sz_2 := Lib.hid (Sees.of_own ho2)
    have HOz := Lib.hid ho2
    clear ho2
    clear hb2
    have hlen : ((Z.length : Int) == (l.length : Int)) = true := by rw [beq_iff_eq]; omega
    have hcap := own_cap HOz.out
    obtain ⟨m, hm⟩ : ∃ m : Nat, m = min kk.toNat Z.length := ⟨_, rfl⟩
    have hmZ : m ≤ Z.length := by omega
    obtain ⟨V, hV⟩ : ∃ V : List Int, Z.take m = V := ⟨_, rfl⟩
    have hVl : V.length = m := by rw [← hV, List.length_take]; omega
    have HE := Lib.hid (show Y = V by rw [← HY.out, ← hV, ← HZ.out, hm, ← HZ.out]; exact firstF_take kk l)
    have SV := Lib.hid (show Sees w2 w2.heap.size 1 A2 V.length (V.map (Value.int .i64)) by rw [hVl, ← hV]; exact sees_take Sz_2.out hmZ)
    have hVa := Nat.le_of_eq hVl
    have hVb := Nat.le_of_eq hVl.symm
    have HVL := Lib.hid hVl
    have hmm := Lib.hid hm
    clear hV hVl hm
    by_cases h1 : (Z.length : Int) < kk
    · have hG : decide ((Z.length : Int) < kk) = true := decide_eq_true h1
      rcases HOz.out.2 with ⟨hnil, _⟩ | ⟨g, cap, cur, hnn, _⟩
      · obtain ⟨rfl, hz0, rfl⟩ : A2 = none ∧ Z.length = 0 ∧ c2 = 0 := by simpa using hnil
        have hZ0 := Nat.le_of_eq hz0
        clear hnil
        go_wp2_with fail
        (with_reducible refine (calls_len (calls_val (v' := .bool true) (quiet_below (sameInts_any A1 none c1 0 Y V w2 _ _ Sy_2.out SV.out (by omega) (by omega))) (by rw [decide_eq_true HE.out])) (by have := hmm.out; omega)).mono ?_)
        rintro e w3 ⟨rfl, hb3⟩
        have Sx_3 := Lib.hid ((Sx_2.out.below hb3).more hb3.size)
        have Sy_3 := Lib.hid ((Sy_2.out.below hb3).more hb3.size)
        have Sz_3 := Lib.hid ((Sz_2.out.below hb3).more hb3.size)
        have Sv_3 := Lib.hid ((SV.out.below hb3).more hb3.size)
        have HB3 := Lib.hid (HB2.out.trans (hb3.mono HB2.out.size))
        clear hb3
        go_wp2
        go_ret
        exact ⟨rfl, HB3.out⟩
      · obtain ⟨rfl, rfl⟩ : A2 = some ⟨g, 0, none⟩ ∧ c2 = cap := by simpa using hnn
        clear hnn
        go_wp2_with fail
        (with_reducible refine (calls_len (calls_val (v' := .bool true) (quiet_below (sameInts_any A1 (some ⟨g, 0, none⟩) c1 c2 Y V w2 _ _ Sy_2.out SV.out (by omega) (by omega))) (by rw [decide_eq_true HE.out])) (by have := hmm.out; omega)).mono ?_)
        rintro e w3 ⟨rfl, hb3⟩
        have Sx_3 := Lib.hid ((Sx_2.out.below hb3).more hb3.size)
        have Sy_3 := Lib.hid ((Sy_2.out.below hb3).more hb3.size)
        have Sz_3 := Lib.hid ((Sz_2.out.below hb3).more hb3.size)
        have Sv_3 := Lib.hid ((SV.out.below hb3).more hb3.size)
        have HB3 := Lib.hid (HB2.out.trans (hb3.mono HB2.out.size))
        clear hb3
        go_wp2
        go_ret
        exact ⟨rfl, HB3.out⟩
    · have hG : decide ((Z.length : Int) < kk) = false := decide_eq_false (by omega)
      obtain rfl : kk = (m : Int) := by have := hmm.out; omega
      rcases HOz.out.2 with ⟨hnil, _⟩ | ⟨g, cap, cur, hnn, _⟩
      · obtain ⟨rfl, hz0, rfl⟩ : A2 = none ∧ Z.length = 0 ∧ c2 = 0 := by simpa using hnil
        have hZ0 := Nat.le_of_eq hz0
        obtain rfl : m = 0 := by omega
        clear hnil
        go_wp2_with fail
        (with_reducible refine (calls_len (calls_val (v' := .bool true) (quiet_below (sameInts_any A1 none c1 0 Y V w2 _ _ Sy_2.out SV.out (by omega) (by omega))) (by rw [decide_eq_true HE.out])) (by have := hmm.out; omega)).mono ?_)
        rintro e w3 ⟨rfl, hb3⟩
        have Sx_3 := Lib.hid ((Sx_2.out.below hb3).more hb3.size)
        have Sy_3 := Lib.hid ((Sy_2.out.below hb3).more hb3.size)
        have Sz_3 := Lib.hid ((Sz_2.out.below hb3).more hb3.size)
        have Sv_3 := Lib.hid ((SV.out.below hb3).more hb3.size)
        have HB3 := Lib.hid (HB2.out.trans (hb3.mono HB2.out.size))
        clear hb3
        go_wp2
        go_ret
        exact ⟨rfl, HB3.out⟩
      · obtain ⟨rfl, rfl⟩ : A2 = some ⟨g, 0, none⟩ ∧ c2 = cap := by simpa using hnn
        clear hnn
        go_wp2_with fail
        (with_reducible refine (calls_len (calls_val (v' := .bool true) (quiet_below (sameInts_any A1 (some ⟨g, 0, none⟩) c1 c2 Y V w2 _ _ Sy_2.out SV.out (by omega) (by omega))) (by rw [decide_eq_true HE.out])) (by have := hmm.out; omega)).mono ?_)
        rintro e w3 ⟨rfl, hb3⟩
        have Sx_3 := Lib.hid ((Sx_2.out.below hb3).more hb3.size)
        have Sy_3 := Lib.hid ((Sy_2.out.below hb3).more hb3.size)
        have Sz_3 := Lib.hid ((Sz_2.out.below hb3).more hb3.size)
        have Sv_3 := Lib.hid ((SV.out.below hb3).more hb3.size)
        have HB3 := Lib.hid (HB2.out.trans (hb3.mono HB2.out.size))
        clear hb3
        go_wp2
        go_ret
        exact ⟨rfl, HB3.out⟩

set_option maxRecDepth 100000 in
theorem fnFirstPops_contract (H : Type) (enc : TypeId × Value → H) (W : World) (base : Nat) (args : Array Value) (ds gs : List (DataW H)) (before : List MemPlace)
    (hval : ∀ (j : Nat) t v, Try.f7.params[j]? = some t → args[j]? = some v → Value.okWide Try.prog W .any base t v)
    (hW : DataW.Whole enc Try.prog Try.f7.params.toList Rows.fnFirstPopsSpec.vars false W args.toList ds gs before)
    (hsz : (DataW.weightsEach Try.prog (Try.f7.params.toList ++ Rows.fnFirstPopsSpec.plain.varTypes Try.prog) (ds ++ gs)).all (· ≤ reachBytes) = true) :
    Calls Try.prog 7 args W fun e W' => ∃ v, e = .returned v ∧ Rows.fnFirstPopsSpec.post enc Try.prog Try.f7 false true false false W args v W' := by
  have hW' := hW
  obtain ⟨p, q, hA0, hV, rfl, hfz, hnd⟩ := hW
  have hA : DataW.TrodAll enc Try.prog W 0 (fun _ => true) true Try.f7.params.toList args.toList ds p := hA0
  rw [Try.params7] at hA hval hsz
  obtain ⟨v0, vs0, d0, ds0, p0, q0, hargs, rfl, rfl, h0, r0⟩ := trodAll_cons hA
  obtain ⟨v1, vs1, d1, ds1, p1, q1, rfl, rfl, rfl, h1, r1⟩ := trodAll_cons r0
  obtain ⟨rfl, rfl, rfl⟩ := trodAll_nil r1
  obtain rfl : args = #[v0, v1] := by cases args; simp_all
  obtain ⟨rfl, rfl⟩ := trodVars_none hV
  have k0 := h0
  have lt0 : ∀ x ∈ p0, x.block < W.heap.size := by obtain ⟨m, hm⟩ := k0; exact DataW.trod_lt m _ _ _ hm
  have k1 := h1
  have lt1 : ∀ x ∈ p1, x.block < W.heap.size := by obtain ⟨m, hm⟩ := k1; exact DataW.trod_lt m _ _ _ hm
  obtain ⟨a0, len0, c0, rfl⟩ := okWide_slice Try.underlying22 (hval 0 22 v0 rfl rfl)
  obtain ⟨l0, rfl, hs0, hw0, hd0⟩ := open_nums Try.underlying22 Try.underlying3 (by kernel_rfl) h0
  have hn0 := nums_reach hsz (j := 0) rfl rfl Try.underlying22 (show Try.prog.bytesOf 3 = 8 by kernel_rfl) hd0
  obtain ⟨x1, rfl, rfl, rfl, wx1⟩ := open_int Try.underlying3 (hval 1 3 v1 rfl rfl) h1
  clear hA0 hsz
  refine (fnFirstPops_any a0 c0 l0 x1 W hs0 hw0 hn0 wx1).mono fun e W' ⟨he, bel⟩ => ?_
  subst he
  exact ⟨_, rfl, _, _, _, [], _, [], hW', trodAll_mk1 (shut_bool Try.underlying4 _), (trodAll_cons_mk (Below.trod Try.laidOut (by kernel_rfl) (of_decide_eq_true (by kernel_rfl)) k0 bel lt0) (trodAll_cons_mk (shut_int Try.underlying3 wx1) trodAll_mk0)), rfl, bel.frame _, fun h => by cases h⟩

set_option maxRecDepth 100000 in
theorem fnFirstPops_lifted (os : Os) (started : os.Started) (H : Type) (enc : TypeId × Value → H) :
    ReturnsInHanded {} Try.checked os 7 .any (Rows.fnFirstPopsSpec.pre6 enc Try.prog Try.f7 Rows.fnFirstPopsRow.domain false) (Rows.fnFirstPopsSpec.post enc Try.prog Try.f7 false true false false) := by
  refine returnsInHanded_of_change_sized (C := Try.checked) Try.own started (by kernel_rfl) Try.func7
    (ChangeSpec.witness6 (enc := enc) (C := Try.checked) false ⟨#[], #[.slice none 0 0, .int .i64 0], []⟩ 8 (by kernel_rfl) (by kernel_rfl) (by kernel_rfl) (by kernel_rfl)) ?_
  intro W base args ds gs before hval hW _ hsz _
  exact fnFirstPops_contract H enc W base args ds gs before hval hW hsz

theorem fnFirstPops_holds : Rows.FnFirstPopsSaid :=
  OpenClaim.holds_of_wide 7 Try.f7 rfl rfl rfl rfl rfl rfl rfl ⟨rfl, rfl, rfl, rfl, rfl⟩ rfl rfl rfl rfl rfl (by kernel_rfl) Try.func7 (by kernel_rfl)
    (of_decide_eq_true (by kernel_rfl)) (by unfold Func.isWrapper; first | (rw [if_pos (by decide +kernel)]; kernel_rfl) | (rw [if_neg (by decide +kernel)]; exact ⟨rfl, rfl⟩))
    (fun os started H enc _ => fnFirstPops_lifted os started H enc)
#print axioms fnFirstPops_holds
end Go.Proofs.Ytibdaodneipmjaa
