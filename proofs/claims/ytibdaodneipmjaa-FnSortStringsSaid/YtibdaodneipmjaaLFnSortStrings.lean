/- For every list of strings, FnSortStrings returns true: the sorted list is ascending and has the same elements. No condition. -/
import Derived.Test.YtibdaodneipmjaaSortTexts
import Derived.Test.YtibdaodneipmjaaArgs
namespace Go.Proofs.Ytibdaodneipmjaa
set_option linter.unusedVariables false
open Go.RowKit Go.ChangeShapes Go.WideShapes Go.ChangeAt

def cntT (l : List ByteArray) (x : ByteArray) : Nat := l.countP fun y => decide (y = x)
theorem cntT_le (l : List ByteArray) (x : ByteArray) : cntT l x ≤ l.length := List.countP_le_length
theorem cntT_take (l : List ByteArray) (x : ByteArray) (k : Nat) (h : k < l.length) : cntT (l.take (k + 1)) x = cntT (l.take k) x + if l[k] = x then 1 else 0 := by
  unfold cntT
  rw [List.take_succ_eq_append_getElem h, List.countP_append]
  simp [List.countP_cons]
theorem textUp (l : List ByteArray) : ∀ j (hj : j < (sortF tlt ByteArray.empty l).length), 1 ≤ j → Op.bytesLess (sortF tlt ByteArray.empty l)[j].toList ((sortF tlt ByteArray.empty l)[j - 1]'(by omega)).toList = false := fun j hj h1 =>
  List.pairwise_iff_getElem.1 (sortF_sorted ByteArray.empty (tlt_weak fun _ => True) l fun _ _ => trivial) (j - 1) j (by omega) hj (by omega)

set_option maxHeartbeats 1600000 in
theorem fnSortStrings_any (A : Option Addr) (c : Nat) (l : List ByteArray) (w : World) (hs : Sees w w.heap.size 1 A l.length (l.map Value.string)) (hw : ∀ x ∈ l, x.size ≤ maxLen) (hn : l.length * 16 ≤ 140737488351232) :
    Calls Try.prog 14 #[.slice A l.length c] w fun e w' => e = .returned (.bool true) ∧ Below w.heap.size w w' := by
  have Sx := Lib.hid hs
  clear hs
  obtain ⟨Y, hY⟩ : ∃ Y, sortF tlt ByteArray.empty l = Y := ⟨_, rfl⟩
  have NY : Y.length = l.length := by rw [← hY, sortF_length]
  have HU := Lib.hid (show ∀ j (hj : j < Y.length), 1 ≤ j → Op.bytesLess Y[j].toList (Y[j - 1]'(by omega)).toList = false by rw [← hY]; exact textUp l)
  have HP := Lib.hid (show ∀ x, cntT l x = cntT Y x by rw [← hY]; exact fun x => (sortF_perm ByteArray.empty tlt l).symm.countP_eq _)
  have HY := Lib.hid hY
  clear hY
  have NYa := Nat.le_of_eq NY
  have NYb := Nat.le_of_eq NY.symm
  have hne : ((Y.length : Int) != (l.length : Int)) = false := by rw [bne_eq_false_iff_eq]; omega
  clear NY
  go_enter Try.func14, Try.ntmps14
  go_wp2_with fail
  (with_reducible refine (newt_eq (sortTexts_any A c l w Sx.out (by omega)) HY.out).mono ?_)
  rintro e w1 ⟨A1, c1, rfl, ho1, hb1⟩
  have SX := Lib.hid (Sx.out.below hb1)
  have SY := Lib.hid (Sees.of_own ho1)
  have HB := Lib.hid hb1
  clear ho1 hb1
  go_wp2
  go_loopg [17] l.length (fun m i wr => ∃ (k q : Nat), i = .int .i64 k ∧ k + m = l.length ∧ wr = w1.drewN q)
  case atStart => exact ⟨0, 0, rfl, by omega, rfl⟩
  case round =>
    obtain ⟨k, q, rfl, hk, rfl⟩ := hrel
    by_cases hlt : k < Y.length
    · obtain ⟨b2, off2, rfl, hbw2, hc2⟩ := SY.out.2 (by omega)
      obtain ⟨b, off, rfl, hbw, hc⟩ := SX.out.2 (by omega)
      have HC := Lib.hid hc
      have HC2 := Lib.hid hc2
      have d0 := hc2 k _ (strs_at Y k hlt)
      obtain ⟨v, hv⟩ : ∃ v, Y[k] = v := ⟨_, rfl⟩
      rw [hv] at d0
      have hcnt := HP.out v
      have hk' := Lib.hid hk
      have hkl : k + 1 ≤ Y.length := hlt
      have HCNT := Lib.hid hcnt
      clear hk hcnt
      by_cases h0 : k = 0
      · subst h0
        clear hc hc2 hv
        rw [Nat.add_zero] at d0
        have t0 : decide ((0 : Int) < ((0 : Nat) : Int)) = false := decide_eq_false (by omega)
        go_wp2_with fail
        go_quiet (fail)
        go_wp2
        go_loopg [5, 6, 36] l.length (fun m a b3 i wr => ∃ (j q2 : Nat), i = .int .i64 j ∧ a = .int .i64 (cntT (l.take j) v : Nat) ∧ b3 = .int .i64 (cntT (Y.take j) v : Nat) ∧ j + m = l.length ∧ wr = w1.drewN q2)
        case atStart => exact ⟨0, _, rfl, rfl, rfl, by omega, rfl⟩
        case round =>
          obtain ⟨j, q2, rfl, rfl, rfl, hj, rfl⟩ := hrel
          by_cases hjl : j < l.length
          · have x0 := HC.out j _ (strs_at l j hjl)
            have y0 := HC2.out j _ (strs_at Y j (by omega))
            have h1 := cntT_take l v j hjl
            have h2 := cntT_take Y v j (by omega)
            have b1 : cntT (l.take j) v ≤ j := Nat.le_trans (cntT_le _ _) (List.length_take_le _ _)
            have b4 : cntT (Y.take j) v ≤ j := Nat.le_trans (cntT_le _ _) (List.length_take_le _ _)
            generalize l[j] = xj at *
            generalize Y[j] = yj at *
            generalize cntT (l.take j) v = n1 at *
            generalize cntT (Y.take j) v = n2 at *
            have hj' := Lib.hid hj
            clear hj
            have hjY : j + 1 ≤ Y.length := by omega
            by_cases e1 : xj = v
            · by_cases e2 : yj = v
              · have E1 : (xj.toList == v.toList) = true := by rw [beq_text]; exact decide_eq_true e1
                have E2 : (yj.toList == v.toList) = true := by rw [beq_text]; exact decide_eq_true e2
                have H1 := Lib.hid (show cntT (l.take (j + 1)) v = n1 + 1 by rw [h1, if_pos e1])
                have H2 := Lib.hid (show cntT (Y.take (j + 1)) v = n2 + 1 by rw [h2, if_pos e2])
                clear h1 h2 e1 e2
                go_wp2_with fail
                go_quiet (fail)
                go_wp2_with fail
                go_quiet (fail)
                go_wp2
                go_roundg (l.length - (j + 1))
                case measure => have := hj'.out; omega
                case rel => exact ⟨j + 1, _, by go_num, by rw [H1.out]; go_num, by rw [H2.out]; go_num, by omega, rfl⟩
              · have E1 : (xj.toList == v.toList) = true := by rw [beq_text]; exact decide_eq_true e1
                have E2 : (yj.toList == v.toList) = false := by rw [beq_text]; exact decide_eq_false e2
                have H1 := Lib.hid (show cntT (l.take (j + 1)) v = n1 + 1 by rw [h1, if_pos e1])
                have H2 := Lib.hid (show cntT (Y.take (j + 1)) v = n2 by rw [h2, if_neg e2]; rfl)
                clear h1 h2 e1 e2
                go_wp2_with fail
                go_quiet (fail)
                go_wp2_with fail
                go_quiet (fail)
                go_wp2
                go_roundg (l.length - (j + 1))
                case measure => have := hj'.out; omega
                case rel => exact ⟨j + 1, _, by go_num, by rw [H1.out]; go_num, by rw [H2.out], by omega, rfl⟩
            · by_cases e2 : yj = v
              · have E1 : (xj.toList == v.toList) = false := by rw [beq_text]; exact decide_eq_false e1
                have E2 : (yj.toList == v.toList) = true := by rw [beq_text]; exact decide_eq_true e2
                have H1 := Lib.hid (show cntT (l.take (j + 1)) v = n1 by rw [h1, if_neg e1]; rfl)
                have H2 := Lib.hid (show cntT (Y.take (j + 1)) v = n2 + 1 by rw [h2, if_pos e2])
                clear h1 h2 e1 e2
                go_wp2_with fail
                go_quiet (fail)
                go_wp2_with fail
                go_quiet (fail)
                go_wp2
                go_roundg (l.length - (j + 1))
                case measure => have := hj'.out; omega
                case rel => exact ⟨j + 1, _, by go_num, by rw [H1.out], by rw [H2.out]; go_num, by omega, rfl⟩
              · have E1 : (xj.toList == v.toList) = false := by rw [beq_text]; exact decide_eq_false e1
                have E2 : (yj.toList == v.toList) = false := by rw [beq_text]; exact decide_eq_false e2
                have H1 := Lib.hid (show cntT (l.take (j + 1)) v = n1 by rw [h1, if_neg e1]; rfl)
                have H2 := Lib.hid (show cntT (Y.take (j + 1)) v = n2 by rw [h2, if_neg e2]; rfl)
                clear h1 h2 e1 e2
                go_wp2_with fail
                go_quiet (fail)
                go_wp2_with fail
                go_quiet (fail)
                go_wp2
                go_roundg (l.length - (j + 1))
                case measure => have := hj'.out; omega
                case rel => exact ⟨j + 1, _, by go_num, by rw [H1.out], by rw [H2.out], by omega, rfl⟩
          · obtain rfl : j = l.length := by omega
            have hT : Y.take l.length = Y := List.take_of_length_le (by omega)
            rw [List.take_length, hT, HCNT.out]
            clear hT
            have hcl := cntT_le Y v
            generalize cntT Y v = nn at *
            have hz : (((nn : Nat) : Int) != (nn : Int)) = false := by simp
            go_wp2
            go_roundg (l.length - (0 + 1))
            case measure => have := hk'.out; omega
            case rel => exact ⟨0 + 1, _, by go_num, by have := hk'.out; omega, rfl⟩
      · have hpos : 1 ≤ k := by omega
        have hp : k - 1 < Y.length := by omega
        have hu := HU.out k hlt hpos
        have d1 := hc2 (k - 1) _ (strs_at Y _ hp)
        rw [hv] at hu
        generalize Y[k - 1] = u at *
        clear hc hc2 hv
        have t0 : decide (0 < k) = true := decide_eq_true (by omega)
        go_wp2_with fail
        go_quiet (fail)
        go_wp2
        go_loopg [5, 6, 36] l.length (fun m a b3 i wr => ∃ (j q2 : Nat), i = .int .i64 j ∧ a = .int .i64 (cntT (l.take j) v : Nat) ∧ b3 = .int .i64 (cntT (Y.take j) v : Nat) ∧ j + m = l.length ∧ wr = w1.drewN q2)
        case atStart => exact ⟨0, _, rfl, rfl, rfl, by omega, rfl⟩
        case round =>
          obtain ⟨j, q2, rfl, rfl, rfl, hj, rfl⟩ := hrel
          by_cases hjl : j < l.length
          · have x0 := HC.out j _ (strs_at l j hjl)
            have y0 := HC2.out j _ (strs_at Y j (by omega))
            have h1 := cntT_take l v j hjl
            have h2 := cntT_take Y v j (by omega)
            have b1 : cntT (l.take j) v ≤ j := Nat.le_trans (cntT_le _ _) (List.length_take_le _ _)
            have b4 : cntT (Y.take j) v ≤ j := Nat.le_trans (cntT_le _ _) (List.length_take_le _ _)
            generalize l[j] = xj at *
            generalize Y[j] = yj at *
            generalize cntT (l.take j) v = n1 at *
            generalize cntT (Y.take j) v = n2 at *
            have hj' := Lib.hid hj
            clear hj
            have hjY : j + 1 ≤ Y.length := by omega
            by_cases e1 : xj = v
            · by_cases e2 : yj = v
              · have E1 : (xj.toList == v.toList) = true := by rw [beq_text]; exact decide_eq_true e1
                have E2 : (yj.toList == v.toList) = true := by rw [beq_text]; exact decide_eq_true e2
                have H1 := Lib.hid (show cntT (l.take (j + 1)) v = n1 + 1 by rw [h1, if_pos e1])
                have H2 := Lib.hid (show cntT (Y.take (j + 1)) v = n2 + 1 by rw [h2, if_pos e2])
                clear h1 h2 e1 e2
                go_wp2_with fail
                go_quiet (fail)
                go_wp2_with fail
                go_quiet (fail)
                go_wp2
                go_roundg (l.length - (j + 1))
                case measure => have := hj'.out; omega
                case rel => exact ⟨j + 1, _, by go_num, by rw [H1.out]; go_num, by rw [H2.out]; go_num, by omega, rfl⟩
              · have E1 : (xj.toList == v.toList) = true := by rw [beq_text]; exact decide_eq_true e1
                have E2 : (yj.toList == v.toList) = false := by rw [beq_text]; exact decide_eq_false e2
                have H1 := Lib.hid (show cntT (l.take (j + 1)) v = n1 + 1 by rw [h1, if_pos e1])
                have H2 := Lib.hid (show cntT (Y.take (j + 1)) v = n2 by rw [h2, if_neg e2]; rfl)
                clear h1 h2 e1 e2
                go_wp2_with fail
                go_quiet (fail)
                go_wp2_with fail
                go_quiet (fail)
                go_wp2
                go_roundg (l.length - (j + 1))
                case measure => have := hj'.out; omega
                case rel => exact ⟨j + 1, _, by go_num, by rw [H1.out]; go_num, by rw [H2.out], by omega, rfl⟩
            · by_cases e2 : yj = v
              · have E1 : (xj.toList == v.toList) = false := by rw [beq_text]; exact decide_eq_false e1
                have E2 : (yj.toList == v.toList) = true := by rw [beq_text]; exact decide_eq_true e2
                have H1 := Lib.hid (show cntT (l.take (j + 1)) v = n1 by rw [h1, if_neg e1]; rfl)
                have H2 := Lib.hid (show cntT (Y.take (j + 1)) v = n2 + 1 by rw [h2, if_pos e2])
                clear h1 h2 e1 e2
                go_wp2_with fail
                go_quiet (fail)
                go_wp2_with fail
                go_quiet (fail)
                go_wp2
                go_roundg (l.length - (j + 1))
                case measure => have := hj'.out; omega
                case rel => exact ⟨j + 1, _, by go_num, by rw [H1.out], by rw [H2.out]; go_num, by omega, rfl⟩
              · have E1 : (xj.toList == v.toList) = false := by rw [beq_text]; exact decide_eq_false e1
                have E2 : (yj.toList == v.toList) = false := by rw [beq_text]; exact decide_eq_false e2
                have H1 := Lib.hid (show cntT (l.take (j + 1)) v = n1 by rw [h1, if_neg e1]; rfl)
                have H2 := Lib.hid (show cntT (Y.take (j + 1)) v = n2 by rw [h2, if_neg e2]; rfl)
                clear h1 h2 e1 e2
                go_wp2_with fail
                go_quiet (fail)
                go_wp2_with fail
                go_quiet (fail)
                go_wp2
                go_roundg (l.length - (j + 1))
                case measure => have := hj'.out; omega
                case rel => exact ⟨j + 1, _, by go_num, by rw [H1.out], by rw [H2.out], by omega, rfl⟩
          · obtain rfl : j = l.length := by omega
            have hT : Y.take l.length = Y := List.take_of_length_le (by omega)
            rw [List.take_length, hT, HCNT.out]
            clear hT
            have hcl := cntT_le Y v
            generalize cntT Y v = nn at *
            have hz : (((nn : Nat) : Int) != (nn : Int)) = false := by simp
            go_wp2
            go_roundg (l.length - (k + 1))
            case measure => have := hk'.out; omega
            case rel => exact ⟨k + 1, _, by go_num, by have := hk'.out; omega, rfl⟩
    · go_wp2
      go_ret
      exact ⟨rfl, below_drewN HB.out _⟩

set_option maxRecDepth 100000 in
theorem fnSortStrings_contract (H : Type) (enc : TypeId × Value → H) (W : World) (base : Nat) (args : Array Value) (ds gs : List (DataW H)) (before : List MemPlace)
    (hval : ∀ (j : Nat) t v, Try.f14.params[j]? = some t → args[j]? = some v → Value.okWide Try.prog W .any base t v)
    (hW : DataW.Whole enc Try.prog Try.f14.params.toList Rows.fnSortStringsSpec.vars false W args.toList ds gs before)
    (hsz : (DataW.weightsEach Try.prog (Try.f14.params.toList ++ Rows.fnSortStringsSpec.plain.varTypes Try.prog) (ds ++ gs)).all (· ≤ reachBytes) = true) :
    Calls Try.prog 14 args W fun e W' => ∃ v, e = .returned v ∧ Rows.fnSortStringsSpec.post enc Try.prog Try.f14 false true false false W args v W' := by
  have hW' := hW
  obtain ⟨p, q, hA0, hV, rfl, hfz, hnd⟩ := hW
  have hA : DataW.TrodAll enc Try.prog W 0 (fun _ => true) true Try.f14.params.toList args.toList ds p := hA0
  rw [Try.params14] at hA hval hsz
  obtain ⟨v0, vs0, d0, ds0, p0, q0, hargs, rfl, rfl, h0, r0⟩ := trodAll_cons hA
  obtain ⟨rfl, rfl, rfl⟩ := trodAll_nil r0
  obtain rfl : args = #[v0] := by cases args; simp_all
  obtain ⟨rfl, rfl⟩ := trodVars_none hV
  have k0 := h0
  have lt0 : ∀ x ∈ p0, x.block < W.heap.size := by obtain ⟨m, hm⟩ := k0; exact DataW.trod_lt m _ _ _ hm
  obtain ⟨a0, len0, c0, rfl⟩ := okWide_slice Try.underlying29 (hval 0 29 v0 rfl rfl)
  obtain ⟨l0, rfl, hs0, hw0, hd0⟩ := open_texts Try.underlying29 Try.underlying9 (by kernel_rfl) h0
  have hn0 := nums_reach hsz (j := 0) rfl rfl Try.underlying29 (show Try.prog.bytesOf 9 = 16 by kernel_rfl) hd0
  clear hA0 hsz
  refine (fnSortStrings_any a0 c0 l0 W hs0 hw0 hn0).mono fun e W' ⟨he, bel⟩ => ?_
  subst he
  exact ⟨_, rfl, _, _, _, [], _, [], hW', trodAll_mk1 (shut_bool Try.underlying4 _), (trodAll_cons_mk (Below.trod Try.laidOut (by kernel_rfl) (of_decide_eq_true (by kernel_rfl)) k0 bel lt0) trodAll_mk0), rfl, bel.frame _, fun h => by cases h⟩

set_option maxRecDepth 100000 in
theorem fnSortStrings_lifted (os : Os) (started : os.Started) (H : Type) (enc : TypeId × Value → H) :
    ReturnsInHanded {} Try.checked os 14 .any (Rows.fnSortStringsSpec.pre6 enc Try.prog Try.f14 Rows.fnSortStringsRow.domain false) (Rows.fnSortStringsSpec.post enc Try.prog Try.f14 false true false false) := by
  refine returnsInHanded_of_change_sized (C := Try.checked) Try.own started (by kernel_rfl) Try.func14
    (ChangeSpec.witness6 (enc := enc) (C := Try.checked) false ⟨#[], #[.slice none 0 0], []⟩ 8 (by kernel_rfl) (by kernel_rfl) (by kernel_rfl) (by kernel_rfl)) ?_
  intro W base args ds gs before hval hW _ hsz _
  exact fnSortStrings_contract H enc W base args ds gs before hval hW hsz

theorem fnSortStrings_holds : Rows.FnSortStringsSaid :=
  OpenClaim.holds_of_wide 14 Try.f14 rfl rfl rfl rfl rfl rfl rfl ⟨rfl, rfl, rfl, rfl, rfl⟩ rfl rfl rfl rfl rfl (by kernel_rfl) Try.func14 (by kernel_rfl)
    (of_decide_eq_true (by kernel_rfl)) (by unfold Func.isWrapper; first | (rw [if_pos (by decide +kernel)]; kernel_rfl) | (rw [if_neg (by decide +kernel)]; exact ⟨rfl, rfl⟩))
    (fun os started H enc _ => fnSortStrings_lifted os started H enc)
#print axioms fnSortStrings_holds
end Go.Proofs.Ytibdaodneipmjaa
