/- For every order and every list of numbers, FnOrderSorted returns true: by a strict weak order the pops after Init are sorted and are the same elements. No condition. -/
import Derived.Test.YtgijkfkfifjokaaByOrder
import Derived.Test.YtgijkfkfifjokaaOrders
import Derived.Test.YtgijkfkfifjokaaOrderArgs
import Derived.Test.YtgijkfkfifjokaaWeak
import Derived.Test.YtgijkfkfifjokaaArgs
import Derived.Deep.RegionHeld3
import Derived.Deep.QuietTactic
import Derived.BigQuiet
namespace Go.Proofs.Ytgijkfkfifjokaa
set_option linter.unusedVariables false
open Go.RowKit Go.ChangeShapes Go.WideShapes Go.ChangeAt

set_option maxHeartbeats 1600000 in
theorem fnOrderSorted_any (sz : Int) (Ab : Option Addr) (cb : Nat) (bs : List Bool) (A : Option Addr) (c : Nat) (l : List Int) (w : World) (wx : (Lit.int .i64 sz).wf = true) (hsb : Sees w w.heap.size 1 Ab bs.length (bs.map Value.bool)) (hnb : bs.length ≤ 140737488351232) (hs : Sees w w.heap.size 1 A l.length (l.map (Value.int .i64))) (hw : ∀ x ∈ l, (Lit.int .i64 x).wf = true) (hn : l.length * 8 ≤ 140737488351232) :
    Calls Try.prog 6 #[.agg #[.int .i64 sz, .slice Ab bs.length cb], .slice A l.length c] w fun e w' => e = .returned (.bool true) ∧ Below w.heap.size w w' := by
  have hwz := wf_fits wx
  have HF := Lib.hid (show Fits l from fun x hx => wf_fits (hw x hx))
  clear wx hw
  have Sb := Lib.hid hsb
  clear hsb
  have Sx := Lib.hid hs
  clear hs
  by_cases h0 : weakIn (bef sz bs) l = true
  · obtain ⟨Y, hY⟩ : ∃ x : List Int, sortF (bef sz bs) 0 l = x := ⟨_, rfl⟩
    have HY := Lib.hid hY
    clear hY
    have NY : Y.length = l.length := by rw [← HY.out]; exact sortF_length _ _ l
    have NYa := Nat.le_of_eq NY
    have NYb := Nat.le_of_eq NY.symm
    clear NY
    have HP := Lib.hid (show l.Perm Y by rw [← HY.out]; exact (sortF_perm _ _ l).symm)
    have HFY := Lib.hid (HF.out.perm HP.out.symm)
    have HU := Lib.hid (show ∀ i j (hi : i < Y.length) (hj : j < Y.length), i < j → bef sz bs Y[j] Y[i] = false from fun i j hi hj hij => by have := sortF_sorted 0 (weak_of h0) l (fun _ h => h); rw [HY.out] at this; exact List.pairwise_iff_getElem.1 this i j hi hj hij)
    have HB0 := Lib.hid (Below.refl w.heap.size w)
    go_enter Try.func6, Try.ntmps6
    go_wp2_with fail
    obtain ⟨W1, hW1⟩ : ∃ W : World, W = (w.alloc (.cells #[.int .i64 sz, .slice Ab bs.length cb] 24)) := ⟨_, rfl⟩
    rw [← hW1]
    have hb1 : Below w.heap.size w W1 := by rw [hW1]; exact ((Below.refl _ _).alloc (Nat.le_refl _) _)
    have hko1 : Blk W1 (w.heap.size) 24 #[.int .i64 sz, .slice Ab bs.length cb] := by rw [hW1]; exact Blk.new _ _ _
    have Sb_1 := Lib.hid ((Sb.out.below hb1).more hb1.size)
    have Sx_1 := Lib.hid ((Sx.out.below hb1).more hb1.size)
    have HB1 := Lib.hid (HB0.out.trans (hb1.mono HB0.out.size))
    have o0_1 : W1.cell? ⟨w.heap.size, 0, none⟩ = some (.int .i64 sz) := hko1.cell 0
    have o1_1 : W1.cell? ⟨w.heap.size, 1, none⟩ = some (.slice Ab bs.length cb) := hko1.cell 1
    have lto_1 : w.heap.size < W1.heap.size := hko1.lt
    clear hko1
    clear hW1 hb1
    (with_reducible refine (calls_val (v' := .bool true) (isWeak_any sz Ab cb bs A c l W1 hwz Sb_1.out (by omega) Sx_1.out HF.out (by omega)) (by rw [h0])).mono ?_)
    rintro e w2 ⟨rfl, hb2⟩
    have Sb_2 := Lib.hid ((Sb_1.out.below hb2).more hb2.size)
    have Sx_2 := Lib.hid ((Sx_1.out.below hb2).more hb2.size)
    have o0_2 := (hb2.cell (p := ⟨w.heap.size, 0, none⟩) lto_1).trans o0_1
    have o1_2 := (hb2.cell (p := ⟨w.heap.size, 1, none⟩) lto_1).trans o1_1
    have lto_2 := Nat.lt_of_lt_of_le lto_1 hb2.size
    have HB2 := Lib.hid (HB1.out.trans (hb2.mono HB1.out.size))
    clear hb2
    go_wp2_with fail
    (with_reducible refine (toOrder_any sz Ab cb bs w2 Sb_2.out (by omega)).mono ?_)
    rintro e w3 ⟨A3, c3, rfl, ho3, hb3⟩
    have Sb_3 := Lib.hid ((Sb_2.out.below hb3).more hb3.size)
    have Sx_3 := Lib.hid ((Sx_2.out.below hb3).more hb3.size)
    have o0_3 := (hb3.cell (p := ⟨w.heap.size, 0, none⟩) lto_2).trans o0_2
    have o1_3 := (hb3.cell (p := ⟨w.heap.size, 1, none⟩) lto_2).trans o1_2
    have lto_3 := Nat.lt_of_lt_of_le lto_2 hb3.size
    have HB3 := Lib.hid (HB2.out.trans (hb3.mono HB2.out.size))
    have Sp_3 := Lib.hid (Sees.of_own ho3)
    clear ho3
    clear hb3
    go_wp2_with fail
    (with_reducible refine (newn_eq (sortByOrder_any sz A3 c3 bs A c l w3 hwz Sp_3.out (by omega) Sx_3.out HF.out (by omega)) HY.out).mono ?_)
    rintro e w4 ⟨A4, c4, rfl, ho4, hb4⟩
    have Sb_4 := Lib.hid ((Sb_3.out.below hb4).more hb4.size)
    have Sx_4 := Lib.hid ((Sx_3.out.below hb4).more hb4.size)
    have Sp_4 := Lib.hid ((Sp_3.out.below hb4).more hb4.size)
    have o0_4 := (hb4.cell (p := ⟨w.heap.size, 0, none⟩) lto_3).trans o0_3
    have o1_4 := (hb4.cell (p := ⟨w.heap.size, 1, none⟩) lto_3).trans o1_3
    have lto_4 := Nat.lt_of_lt_of_le lto_3 hb4.size
    have HB4 := Lib.hid (HB3.out.trans (hb4.mono HB3.out.size))
    have Sy_4 := Lib.hid (Sees.of_own ho4)
    clear ho4
    clear hb4
    go_wp2_with fail
    go_loopg [18] Y.length (fun m i wr => ∃ (k : Nat), i = .int .i64 k ∧ k + m = Y.length ∧ Hid (Below w4.heap.size w4 wr))
    case atStart => exact ⟨0, rfl, by omega, Below.refl _ _⟩
    case round =>
      obtain ⟨k, rfl, hk, HQ0⟩ := hrel
      by_cases hlt : k < Y.length
      · have hkl : k + 1 ≤ Y.length := hlt
        have hk' := Lib.hid hk
        clear hk
        go_wp2_with fail
        go_loopg [7] k (fun m i wr => ∃ (k2 : Nat), i = .int .i64 k2 ∧ k2 + m = k ∧ Hid (Below w4.heap.size w4 wr))
        case atStart => exact ⟨0, rfl, by omega, HQ0⟩
        case round =>
          obtain ⟨k2, rfl, hk2, HQ⟩ := hrel
          have hk2' := Lib.hid hk2
          have hk2k : k2 ≤ k := by omega
          clear hk2
          by_cases hlt2 : k2 < k
          · have hp : k2 < Y.length := by omega
            obtain ⟨b, off, rfl, hbw, hc⟩ := Sy_4.out.2 (by omega)
            have c0 := hc (k) _ (nums_at Y _ hlt)
            have d0 := hc (k2) _ (nums_at Y _ hp)
            clear hc
            have hno : bef sz bs Y[k] Y[k2] = false := HU.out k2 k hp hlt hlt2
            have hfu := HFY.out _ (List.getElem_mem hlt)
            have hfv := HFY.out _ (List.getElem_mem hp)
            generalize Y[k] = u at *
            generalize Y[k2] = v at *
            have q0 : wr.cell? ⟨w.heap.size, 0, none⟩ = some (.int .i64 sz) := (HQ.out.cell (p := ⟨w.heap.size, 0, none⟩) lto_4).trans o0_4
            have q1 : wr.cell? ⟨w.heap.size, 1, none⟩ = some (.slice Ab bs.length cb) := (HQ.out.cell (p := ⟨w.heap.size, 1, none⟩) lto_4).trans o1_4
            have q2 : wr.cell? ⟨b, off + k, none⟩ = some (.int .i64 u) := (HQ.out.cell (p := ⟨b, off + k, none⟩) hbw).trans c0
            have q3 : wr.cell? ⟨b, off + k2, none⟩ = some (.int .i64 v) := (HQ.out.cell (p := ⟨b, off + k2, none⟩) hbw).trans d0
            have HNO := Lib.hid hno
            clear hno
            have HC := Lib.hid (show ∀ w', Below w4.heap.size w4 w' → w'.cell? ⟨w.heap.size, 0, none⟩ = some (.int .i64 sz) ∧ w'.cell? ⟨w.heap.size, 1, none⟩ = some (.slice Ab bs.length cb) ∧ w'.cell? ⟨b, off + k, none⟩ = some (.int .i64 u) ∧ w'.cell? ⟨b, off + k2, none⟩ = some (.int .i64 v) from fun w' hb' => ⟨(hb'.cell (p := ⟨w.heap.size, 0, none⟩) lto_4).trans o0_4, (hb'.cell (p := ⟨w.heap.size, 1, none⟩) lto_4).trans o1_4, (hb'.cell (p := ⟨b, off + k, none⟩) hbw).trans c0, (hb'.cell (p := ⟨b, off + k2, none⟩) hbw).trans d0⟩)
            clear c0 d0 o0_4 o1_4
            go_wp2_with fail
            go_region_held3 (fun w' => w'.cell? ⟨w.heap.size, 0, none⟩ = some (.int .i64 sz) ∧ w'.cell? ⟨w.heap.size, 1, none⟩ = some (.slice Ab bs.length cb) ∧ w'.cell? ⟨b, off + k, none⟩ = some (.int .i64 u) ∧ w'.cell? ⟨b, off + k2, none⟩ = some (.int .i64 v)) (first | go_keep | (exact ⟨by assumption, by assumption, by assumption, by assumption⟩))
              (first | (go_at_call 18; (with_reducible refine (calls_val (v' := .bool false) (precedes_from sz Ab cb bs u v w4 _ Sb_4.out HQ.out.drew (by omega) hwz hfu hfv) (by rw [HNO.out])).mono ?_); rintro e w9 ⟨rfl, hb9⟩; obtain ⟨r0, r1, r2, r3⟩ := HC.out _ hb9; have HQ9 := Lib.hid hb9; clear hb9))
            all_goals go_wp2
            all_goals go_roundg (k - (k2 + 1))
            all_goals first | (have := hk2'.out; omega) | exact ⟨k2 + 1, by go_num, by omega, HQ9⟩
          · go_wp2
            go_roundg (Y.length - (k + 1))
            all_goals first | (have := hk'.out; omega) | exact ⟨k + 1, by go_num, by omega, HQ⟩
      · have HQ := HQ0
        have hbq := HQ.out
        have Sb_5 := Lib.hid ((Sb_4.out.below hbq).more hbq.size)
        have Sx_5 := Lib.hid ((Sx_4.out.below hbq).more hbq.size)
        have Sp_5 := Lib.hid ((Sp_4.out.below hbq).more hbq.size)
        have Sy_5 := Lib.hid ((Sy_4.out.below hbq).more hbq.size)
        have o0_5 := (hbq.cell (p := ⟨w.heap.size, 0, none⟩) lto_4).trans o0_4
        have o1_5 := (hbq.cell (p := ⟨w.heap.size, 1, none⟩) lto_4).trans o1_4
        have lto_5 := Nat.lt_of_lt_of_le lto_4 hbq.size
        have HB5 := Lib.hid (HB4.out.trans (hbq.mono HB4.out.size))
        clear hbq
        go_wp2_with fail
        (with_reducible refine (calls_val (v' := .bool true) (quiet_below (sameNumbers_any A A4 c c4 l Y wr _ _ Sx_5.out Sy_5.out (by omega) (by omega))) (by rw [sameN_perm HP.out])).mono ?_)
        rintro e w6 ⟨rfl, hb6⟩
        have Sb_6 := Lib.hid ((Sb_5.out.below hb6).more hb6.size)
        have Sx_6 := Lib.hid ((Sx_5.out.below hb6).more hb6.size)
        have Sp_6 := Lib.hid ((Sp_5.out.below hb6).more hb6.size)
        have Sy_6 := Lib.hid ((Sy_5.out.below hb6).more hb6.size)
        have o0_6 := (hb6.cell (p := ⟨w.heap.size, 0, none⟩) lto_5).trans o0_5
        have o1_6 := (hb6.cell (p := ⟨w.heap.size, 1, none⟩) lto_5).trans o1_5
        have lto_6 := Nat.lt_of_lt_of_le lto_5 hb6.size
        have HB6 := Lib.hid (HB5.out.trans (hb6.mono HB5.out.size))
        clear hb6
        go_wp2
        go_ret
        exact ⟨rfl, HB6.out⟩
  · have h1 : weakIn (bef sz bs) l = false := by rw [← Bool.not_eq_true]; exact h0
    clear h0
    have HB0 := Lib.hid (Below.refl w.heap.size w)
    go_enter Try.func6, Try.ntmps6
    go_wp2_with fail
    obtain ⟨W1, hW1⟩ : ∃ W : World, W = (w.alloc (.cells #[.int .i64 sz, .slice Ab bs.length cb] 24)) := ⟨_, rfl⟩
    rw [← hW1]
    have hb1 : Below w.heap.size w W1 := by rw [hW1]; exact ((Below.refl _ _).alloc (Nat.le_refl _) _)
    have hko1 : Blk W1 (w.heap.size) 24 #[.int .i64 sz, .slice Ab bs.length cb] := by rw [hW1]; exact Blk.new _ _ _
    have Sb_1 := Lib.hid ((Sb.out.below hb1).more hb1.size)
    have Sx_1 := Lib.hid ((Sx.out.below hb1).more hb1.size)
    have HB1 := Lib.hid (HB0.out.trans (hb1.mono HB0.out.size))
    have o0_1 : W1.cell? ⟨w.heap.size, 0, none⟩ = some (.int .i64 sz) := hko1.cell 0
    have o1_1 : W1.cell? ⟨w.heap.size, 1, none⟩ = some (.slice Ab bs.length cb) := hko1.cell 1
    have lto_1 : w.heap.size < W1.heap.size := hko1.lt
    clear hko1
    clear hW1 hb1
    (with_reducible refine (calls_val (v' := .bool false) (isWeak_any sz Ab cb bs A c l W1 hwz Sb_1.out (by omega) Sx_1.out HF.out (by omega)) (by rw [h1])).mono ?_)
    rintro e w2 ⟨rfl, hb2⟩
    have Sb_2 := Lib.hid ((Sb_1.out.below hb2).more hb2.size)
    have Sx_2 := Lib.hid ((Sx_1.out.below hb2).more hb2.size)
    have o0_2 := (hb2.cell (p := ⟨w.heap.size, 0, none⟩) lto_1).trans o0_1
    have o1_2 := (hb2.cell (p := ⟨w.heap.size, 1, none⟩) lto_1).trans o1_1
    have lto_2 := Nat.lt_of_lt_of_le lto_1 hb2.size
    have HB2 := Lib.hid (HB1.out.trans (hb2.mono HB1.out.size))
    clear hb2
    go_wp2
    go_ret
    exact ⟨rfl, HB2.out⟩

set_option maxRecDepth 100000 in
theorem fnOrderSorted_contract (H : Type) (enc : TypeId × Value → H) (W : World) (base : Nat) (args : Array Value) (ds gs : List (DataW H)) (before : List MemPlace)
    (hval : ∀ (j : Nat) t v, Try.f6.params[j]? = some t → args[j]? = some v → Value.okWide Try.prog W .any base t v)
    (hW : DataW.Whole enc Try.prog Try.f6.params.toList Rows.fnOrderSortedSpec.vars false W args.toList ds gs before)
    (hsz : (DataW.weightsEach Try.prog (Try.f6.params.toList ++ Rows.fnOrderSortedSpec.plain.varTypes Try.prog) (ds ++ gs)).all (· ≤ reachBytes) = true) :
    Calls Try.prog 6 args W fun e W' => ∃ v, e = .returned v ∧ Rows.fnOrderSortedSpec.post enc Try.prog Try.f6 false true false false W args v W' := by
  have hW' := hW
  obtain ⟨p, q, hA0, hV, rfl, hfz, hnd⟩ := hW
  have hA : DataW.TrodAll enc Try.prog W 0 (fun _ => true) true Try.f6.params.toList args.toList ds p := hA0
  rw [Try.params6] at hA hval hsz
  obtain ⟨v0, vs0, d0, ds0, p0, q0, hargs, rfl, rfl, h0, r0⟩ := trodAll_cons hA
  obtain ⟨v1, vs1, d1, ds1, p1, q1, rfl, rfl, rfl, h1, r1⟩ := trodAll_cons r0
  obtain ⟨rfl, rfl, rfl⟩ := trodAll_nil r1
  obtain rfl : args = #[v0, v1] := by cases args; simp_all
  obtain ⟨rfl, rfl⟩ := trodVars_none hV
  have k0 := h0
  have lt0 : ∀ x ∈ p0, x.block < W.heap.size := by obtain ⟨m, hm⟩ := k0; exact DataW.trod_lt m _ _ _ hm
  have k1 := h1
  have lt1 : ∀ x ∈ p1, x.block < W.heap.size := by obtain ⟨m, hm⟩ := k1; exact DataW.trod_lt m _ _ _ hm
  obtain ⟨x0, a0, c0, l0, rfl, wx0, hs0, hn0⟩ := open_order Try.underlying24 (by kernel_rfl) (by kernel_rfl) Try.underlying3 Try.underlying22 Try.underlying4 (by kernel_rfl) (by kernel_rfl) (hval 0 24 v0 rfl rfl) h0 hsz (j := 0) rfl rfl
  obtain ⟨a1, len1, c1, rfl⟩ := okWide_slice Try.underlying25 (hval 1 25 v1 rfl rfl)
  obtain ⟨l1, rfl, hs1, hw1, hd1⟩ := open_nums Try.underlying25 Try.underlying3 (by kernel_rfl) h1
  have hn1 := nums_reach hsz (j := 1) rfl rfl Try.underlying25 (show Try.prog.bytesOf 3 = 8 by kernel_rfl) hd1
  clear hA0 hsz
  refine (fnOrderSorted_any x0 a0 c0 l0 a1 c1 l1 W wx0 hs0 hn0 hs1 hw1 hn1).mono fun e W' ⟨he, bel⟩ => ?_
  subst he
  exact ⟨_, rfl, _, _, _, [], _, [], hW', trodAll_mk1 (shut_bool Try.underlying4 _), (trodAll_cons_mk (Below.trod Try.laidOut (by kernel_rfl) (of_decide_eq_true (by kernel_rfl)) k0 bel lt0) (trodAll_cons_mk (Below.trod Try.laidOut (by kernel_rfl) (of_decide_eq_true (by kernel_rfl)) k1 bel lt1) trodAll_mk0)), rfl, bel.frame _, fun h => by cases h⟩

set_option maxRecDepth 100000 in
theorem fnOrderSorted_lifted (os : Os) (started : os.Started) (H : Type) (enc : TypeId × Value → H) :
    ReturnsInHanded {} Try.checked os 6 .any (Rows.fnOrderSortedSpec.pre6 enc Try.prog Try.f6 Rows.fnOrderSortedRow.domain false) (Rows.fnOrderSortedSpec.post enc Try.prog Try.f6 false true false false) := by
  refine returnsInHanded_of_change_sized (C := Try.checked) Try.own started (by kernel_rfl) Try.func6
    (ChangeSpec.witness6 (enc := enc) (C := Try.checked) false ⟨#[], #[.agg #[.int .i64 0, .slice none 0 0], .slice none 0 0], []⟩ 8 (by kernel_rfl) (by kernel_rfl) (by kernel_rfl) (by kernel_rfl)) ?_
  intro W base args ds gs before hval hW _ hsz _
  exact fnOrderSorted_contract H enc W base args ds gs before hval hW hsz

theorem fnOrderSorted_holds : Rows.FnOrderSortedSaid :=
  OpenClaim.holds_of_wide 6 Try.f6 rfl rfl rfl rfl rfl rfl rfl ⟨rfl, rfl, rfl, rfl, rfl⟩ rfl rfl rfl rfl rfl (by kernel_rfl) Try.func6 (by kernel_rfl)
    (of_decide_eq_true (by kernel_rfl)) (by unfold Func.isWrapper; first | (rw [if_pos (by decide +kernel)]; kernel_rfl) | (rw [if_neg (by decide +kernel)]; exact ⟨rfl, rfl⟩))
    (fun os started H enc _ => fnOrderSorted_lifted os started H enc)
#print axioms fnOrderSorted_holds
end Go.Proofs.Ytgijkfkfifjokaa
