/- For every order and every list of numbers, FnOrderKeeps returns true: the functions with an order leave their arguments as they were. No condition. -/
import Derived.Test.YtgijkfkfifjokaaByOrder
import Derived.Test.YtgijkfkfifjokaaOrders
import Derived.Test.YtgijkfkfifjokaaOrderArgs
import Derived.Test.YtgijkfkfifjokaaArgs
import Derived.Deep.RegionHeld3
import Derived.Deep.QuietTactic
import Derived.BigQuiet
namespace Go.Proofs.Ytgijkfkfifjokaa
set_option linter.unusedVariables false
open Go.RowKit Go.ChangeShapes Go.WideShapes Go.ChangeAt

/-- What lies in memory behind FnOrderKeeps's first statement. -/
def Both (W : World) (sz : Int) (bs : List Bool) (l : List Int) (A1 : Option Addr) (c1 : Nat) (A2 : Option Addr) (c2 : Nat) (pb : Nat) (wF : World) : Prop :=
  Below W.heap.size W wF ∧ Blk wF pb 28 #[.int .i64 sz, .slice A2 bs.length c2] ∧ wF.ownsRow W.heap.size 3 1 (.slice A1 l.length c1) l.length (l.map (Value.int .i64)) ∧ wF.ownsRow W.heap.size 4 1 (.slice A2 bs.length c2) bs.length (bs.map Value.bool)
theorem both_new {W w2 : World} {sz : Int} {bs : List Bool} {l : List Int} {A1 A2 : Option Addr} {c1 c2 : Nat} (hb : Below W.heap.size W w2) (ho : w2.ownsRow W.heap.size 3 1 (.slice A1 l.length c1) l.length (l.map (Value.int .i64))) (hp : w2.ownsRow W.heap.size 4 1 (.slice A2 bs.length c2) bs.length (bs.map Value.bool)) :
    Both W sz bs l A1 c1 A2 c2 w2.heap.size (w2.alloc (.cells #[.int .i64 sz, .slice A2 bs.length c2] 28)) := ⟨hb.alloc hb.size _, Blk.new _ _ _, ho.alloc _, hp.alloc _⟩
theorem both_set {W w2 : World} {sz : Int} {bs : List Bool} {l : List Int} {A1 A2 : Option Addr} {c1 c2 pb : Nat} {x y : Value} (hz : Blk w2 pb 28 #[x, y]) (hpb : W.heap.size ≤ pb) (hb : Below W.heap.size W w2) (ho : w2.ownsRow W.heap.size 3 1 (.slice A1 l.length c1) l.length (l.map (Value.int .i64))) (hp : w2.ownsRow W.heap.size 4 1 (.slice A2 bs.length c2) bs.length (bs.map Value.bool)) :
    Both W sz bs l A1 c1 A2 c2 pb ((w2.setCell ⟨pb, 0, none⟩ (.int .i64 sz)).setCell ⟨pb, 1, none⟩ (.slice A2 bs.length c2)) := by
  have n1 := own_blk_ne ho hz (by decide)
  have n2 := own_blk_ne hp hz (by decide)
  refine ⟨(hb.setCell hpb _).setCell hpb _, ?_, own_setCell_other (own_setCell_other ho n1 _) n1 _, own_setCell_other (own_setCell_other hp n2 _) n2 _⟩
  have h3 := (hz.set_ 0 (.int .i64 sz)).set_ 1 (.slice A2 bs.length c2)
  simpa using h3

set_option maxHeartbeats 3200000 in
theorem fnOrderKeeps_any (sz : Int) (Ab : Option Addr) (cb : Nat) (bs : List Bool) (A : Option Addr) (c : Nat) (l : List Int) (w : World) (wx : (Lit.int .i64 sz).wf = true) (hsb : Sees w w.heap.size 1 Ab bs.length (bs.map Value.bool)) (hnb : bs.length ≤ 140737488351232) (hs : Sees w w.heap.size 1 A l.length (l.map (Value.int .i64))) (hw : ∀ x ∈ l, (Lit.int .i64 x).wf = true) (hn : l.length * 8 ≤ 140737488351232) :
    Calls Try.prog 7 #[.agg #[.int .i64 sz, .slice Ab bs.length cb], .slice A l.length c] w fun e w' => e = .returned (.bool true) ∧ Below w.heap.size w w' := by
  have hwz := wf_fits wx
  have HF := Lib.hid (show Fits l from fun x hx => wf_fits (hw x hx))
  clear wx hw
  have Sb := Lib.hid hsb
  clear hsb
  have Sx := Lib.hid hs
  clear hs
  obtain ⟨Y, hY⟩ : ∃ x : List Int, sortF (bef sz bs) 0 l = x := ⟨_, rfl⟩
  have HY := Lib.hid hY
  clear hY
  have NY : Y.length = l.length := by rw [← HY.out]; exact sortF_length _ _ l
  have NYa := Nat.le_of_eq NY
  have NYb := Nat.le_of_eq NY.symm
  clear NY
  obtain ⟨Z, hZ⟩ : ∃ x : List Int, initM (listM (bef sz bs)) l.length (l.length / 2) l = x := ⟨_, rfl⟩
  have HZ := Lib.hid hZ
  clear hZ
  have hlen : ((Y.length : Int) == (l.length : Int)) = true := by rw [beq_iff_eq]; omega
  obtain ⟨i0, hi, hz0, hz1, hz2⟩ := info_parts info_int
  have HB0 := Lib.hid (Below.refl w.heap.size w)
  go_enter Try.func7, Try.ntmps7
  go_wp2_with fail
  obtain ⟨W1, hW1⟩ : ∃ W : World, W = (w.alloc (.cells #[.int .i64 sz, .slice Ab bs.length cb] 24)) := ⟨_, rfl⟩
  rw [← hW1]
  have hb1 : Below w.heap.size w W1 := by rw [hW1]; exact ((Below.refl _ _).alloc (Nat.le_refl _) _)
  have hko1 : Blk W1 (w.heap.size) 24 #[.int .i64 sz, .slice Ab bs.length cb] := by rw [hW1]; exact Blk.new _ _ _
  have Sb_1 := Lib.hid ((Sb.out.below hb1).more hb1.size)
  have Sx_1 := Lib.hid ((Sx.out.below hb1).more hb1.size)
  have HB1 := Lib.hid (HB0.out.trans (hb1.mono HB0.out.size))
  have o0_1 : W1.cell? ⟨w.heap.size, 0, none⟩ = some (.int .i64 sz) := hko1.cell 0
  have o1_1 : W1.cell? ⟨w.heap.size, 1, none⟩ = some (.slice Ab bs.length cb) := hko1.cell 1
  have lto_1 : w.heap.size < W1.heap.size := hko1.lt
  clear hko1
  clear hW1 hb1
  have hlo : w.heap.size < W1.heap.size := lto_1
  go_region_held3 (fun w' => w'.cell? ⟨w.heap.size, 0, none⟩ = some (.int .i64 sz) ∧ w'.cell? ⟨w.heap.size, 1, none⟩ = some (.slice Ab bs.length cb)) (first | go_keep | (exact ⟨by assumption, by assumption⟩))
    (first
      | ((refine step_append_row _ rfl (.const (.slice none 0 0)) (.tmp 10) 25 rfl W1.heap.size 3 i0 _ 1 8 Try.underlying25 hi hz0 hz1 hz2 rfl (by decide) (.slice none 0 0) 0 [] rfl (World.ownsRow_nil _ _ _ _) W1.heap.size A l.length c (l.map (Value.int .i64)) rfl ?_ (nums_cells l) ?_ ?_ ?_ ?_)
         · first | exact Sx_1.out.drew | exact (Sx_1.out.alloc (Nat.le_refl _) _).drew
         · unfold maxLen; omega
         · omega
         · first | exact Nat.le_refl _ | simp
         intro A1 c1 w1 ho1 hg1 _
         simp only [Nat.zero_add, List.nil_append] at ho1 ⊢
         have HA := Lib.hid (show Below W1.heap.size W1 w1 from by first | exact (Below.refl _ _).drew.grown hg1 (Nat.le_refl _) (by simp [Value.ownBlock]) | exact ((Below.refl _ _).alloc (Nat.le_refl _) _).drew.grown hg1 (by simp) (by simp [Value.ownBlock]))
         have HO1 := Lib.hid ho1
         have p0 := (HA.out.cell (p := ⟨w.heap.size, 0, none⟩) hlo).trans o0_1
         have p1 := (HA.out.cell (p := ⟨w.heap.size, 1, none⟩) hlo).trans o1_1
         have l1 : w.heap.size < w1.heap.size := Nat.lt_of_lt_of_le hlo HA.out.size
         have n1 : ¬ w.heap.size = w1.heap.size := by omega
         have n1' : ¬ w1.heap.size = w.heap.size := by omega
         have n0 : ¬ w.heap.size = W1.heap.size := by omega
         have n0' : ¬ W1.heap.size = w.heap.size := by omega
         (try (have hz : Blk w1 W1.heap.size 28 #[.int .i64 0, .slice none 0 0] := (Blk.new W1 _ _).drew.grown hg1 (fun e => by cases e); have z0 : w1.cell? ⟨W1.heap.size, 0, none⟩ = some (.int .i64 0) := hz.cell 0; have z1 : w1.cell? ⟨W1.heap.size, 1, none⟩ = some (.slice none 0 0) := hz.cell 1; have y0 : w1.frozen? ⟨W1.heap.size, 0, none⟩ = false := hz.frozen 0; have y1 : w1.frozen? ⟨W1.heap.size, 1, none⟩ = false := hz.frozen 1; have lz : W1.heap.size < w1.heap.size := hz.lt; have HZ := Lib.hid hz; clear hz))
         clear ho1 hg1)
      | (go_at_call 16; (with_reducible refine (toOrder_any sz Ab cb bs _ ?_ (by omega)).mono ?_); (first | exact (Sb_1.out.below HA.out).more HA.out.size | exact ((Sb_1.out.below HA.out).alloc HA.out.size _).more (Nat.le_trans HA.out.size (by simp))); rintro e w2 ⟨A2, c2, rfl, ho2, hb2⟩; have HC := Lib.hid (show Below W1.heap.size W1 w2 from by first | exact HA.out.trans (hb2.mono HA.out.size) | exact (HA.out.alloc HA.out.size _).trans (hb2.mono (HA.out.alloc HA.out.size _).size)); have HOY := Lib.hid (show w2.ownsRow W1.heap.size 3 1 (.slice A1 l.length c1) l.length (l.map (Value.int .i64)) from by first | exact own_below HO1.out hb2 (own_lt HO1.out) | exact own_below (HO1.out.alloc _) hb2 (own_lt (HO1.out.alloc _))); have HOP := Lib.hid (show w2.ownsRow W1.heap.size 4 1 (.slice A2 bs.length c2) bs.length (bs.map Value.bool) from own_base ho2 (by first | exact HA.out.size | exact (HA.out.alloc HA.out.size _).size)); have q0 := (HC.out.cell (p := ⟨w.heap.size, 0, none⟩) hlo).trans o0_1; have q1 := (HC.out.cell (p := ⟨w.heap.size, 1, none⟩) hlo).trans o1_1; have l2 : w.heap.size < w2.heap.size := Nat.lt_of_lt_of_le hlo HC.out.size; have n2 : ¬ w.heap.size = w2.heap.size := (by omega); have n2' : ¬ w2.heap.size = w.heap.size := (by omega); (try (have hz : Blk w2 W1.heap.size 28 #[.int .i64 0, .slice none 0 0] := HZ.out.below hb2 HZ.out.lt; clear HZ z0 z1 y0 y1 lz; have z0 : w2.cell? ⟨W1.heap.size, 0, none⟩ = some (.int .i64 0) := hz.cell 0; have z1 : w2.cell? ⟨W1.heap.size, 1, none⟩ = some (.slice none 0 0) := hz.cell 1; have y0 : w2.frozen? ⟨W1.heap.size, 0, none⟩ = false := hz.frozen 0; have y1 : w2.frozen? ⟨W1.heap.size, 1, none⟩ = false := hz.frozen 1; have lz : W1.heap.size < w2.heap.size := hz.lt; have HZ := Lib.hid hz; clear hz)); (try (have hz : Blk w2 w1.heap.size 28 #[.int .i64 0, .slice none 0 0] := (Blk.new w1 _ _).below hb2 (by simp); have z0 : w2.cell? ⟨w1.heap.size, 0, none⟩ = some (.int .i64 0) := hz.cell 0; have z1 : w2.cell? ⟨w1.heap.size, 1, none⟩ = some (.slice none 0 0) := hz.cell 1; have y0 : w2.frozen? ⟨w1.heap.size, 0, none⟩ = false := hz.frozen 0; have y1 : w2.frozen? ⟨w1.heap.size, 1, none⟩ = false := hz.frozen 1; have lz : w1.heap.size < w2.heap.size := hz.lt; have HZ := Lib.hid hz; clear hz)); have l21 : w1.heap.size ≤ w2.heap.size := Nat.le_trans (by first | exact Nat.le_refl _ | simp) hb2.size; clear ho2 hb2))
  all_goals
    have HBo := Lib.hid (show Both W1 sz bs l A1 c1 A2 c2 _ _ from by
      first
        | exact both_set HZ.out (by first | exact Nat.le_refl _ | exact HA.out.size) HC.out HOY.out HOP.out
        | exact both_new HC.out HOY.out HOP.out)
    go_wp2_with fail
    obtain ⟨hbF, hzF, hoF, hpF⟩ := HBo.out
    (with_reducible refine (newn_eq (sortByOrder_any sz A2 c2 bs A1 c1 l _ hwz (Sees.of_own hpF) (by omega) (Sees.of_own hoF) HF.out (by omega)) HY.out).mono ?_)
    rintro e w3 ⟨A3, c3, rfl, ho3, hb3⟩
    have hb3' := hbF.trans (hb3.mono hbF.size)
    have hz3 := hzF.below hb3 hzF.lt
    have ho3' := own_below hoF hb3 (own_lt hoF)
    have hp3' := own_below hpF hb3 (own_lt hpF)
    have p0' : w3.cell? ⟨_, 0, none⟩ = some (.int .i64 sz) := hz3.cell 0
    have p1' : w3.cell? ⟨_, 1, none⟩ = some (.slice A2 bs.length c2) := hz3.cell 1
    have hl3 := hz3.lt
    have HB3 := Lib.hid hb3'
    have HZ3 := Lib.hid hz3
    have HO3 := Lib.hid ho3'
    have HP3 := Lib.hid hp3'
    clear hbF hzF hoF hpF ho3 hb3 hb3' hz3 ho3' hp3' HBo HC HOY HOP HA HO1 p0 p1 q0 q1 l1 l2 l21 n0 n0' n1 n1' n2 n2'
    try clear HZ z0 z1 y0 y1 lz
    go_wp2_with fail
    (with_reducible refine (initByOrder_any sz A2 c2 bs A1 c1 l w3 hwz (Sees.of_own HP3.out) (by omega) (Sees.of_own HO3.out) HF.out (by omega)).mono ?_)
    rintro e w4 ⟨A4, c4, rfl, ho4, hb4⟩
    have HB4 := Lib.hid (HB3.out.trans (hb4.mono HB3.out.size))
    have hz4 := HZ3.out.below hb4 HZ3.out.lt
    have SY := Lib.hid ((Sees.of_own HO3.out).below hb4)
    have SP := Lib.hid ((Sees.of_own HP3.out).below hb4)
    have r0 : w4.cell? ⟨_, 0, none⟩ = some (.int .i64 sz) := hz4.cell 0
    have r1 : w4.cell? ⟨_, 1, none⟩ = some (.slice A2 bs.length c2) := hz4.cell 1
    have hl4 := hz4.lt
    have s0 := (HB4.out.cell (p := ⟨w.heap.size, 0, none⟩) hlo).trans o0_1
    have s1 := (HB4.out.cell (p := ⟨w.heap.size, 1, none⟩) hlo).trans o1_1
    have hlo4 : w.heap.size < w4.heap.size := Nat.lt_of_lt_of_le hlo HB4.out.size
    have SB := Lib.hid (Sb_1.out.below HB4.out)
    have SX := Lib.hid (Sx_1.out.below HB4.out)
    have HBE := Lib.hid (HB1.out.trans (HB4.out.mono HB1.out.size))
    have esz : (sz != sz) = false := by simp
    have eln : ((bs.length : Int) != (bs.length : Int)) = false := by simp
    clear ho4 hb4 hz4 p0' p1' hl3 o0_1 o1_1
    go_wp2_with fail
    clear esz eln
    go_loopg [37] bs.length (fun m i wr => ∃ (k : Nat), i = .int .i64 k ∧ k + m = bs.length ∧ wr = w4)
    case atStart => exact ⟨0, rfl, by omega, rfl⟩
    case round =>
      obtain ⟨k, rfl, hk, rfl⟩ := hrel
      by_cases hlt : k < bs.length
      · have hk' := Lib.hid hk
        clear hk
        have hkl : k + 1 ≤ bs.length := hlt
        obtain ⟨b, off, rfl, hbw, hc⟩ := SB.out.2 (by omega)
        have d0 := hc k _ (bools_at bs k hlt)
        clear hc
        obtain ⟨b', off', rfl, hbw', hc⟩ := SP.out.2 (by omega)
        have d1 := hc k _ (bools_at bs k hlt)
        clear hc
        generalize bs[k] = bj at *
        have ebj : (bj != bj) = false := by simp
        go_wp2
        go_roundg (bs.length - (k + 1))
        all_goals first | (have := hk'.out; omega) | exact ⟨k + 1, by go_num, by omega, rfl⟩
      · go_wp2_with fail
        (with_reducible refine (calls_val (v' := .bool true) (quiet_below (sameInts_any A1 A c1 c l l _ _ _ SY.out SX.out (by omega) (by omega))) (by simp)).mono ?_)
        rintro e w5 ⟨rfl, hb5⟩
        have HB5 := Lib.hid (HBE.out.trans (hb5.mono HBE.out.size))
        clear hb5
        go_wp2
        go_ret
        exact ⟨rfl, HB5.out⟩

set_option maxRecDepth 100000 in
theorem fnOrderKeeps_contract (H : Type) (enc : TypeId × Value → H) (W : World) (base : Nat) (args : Array Value) (ds gs : List (DataW H)) (before : List MemPlace)
    (hval : ∀ (j : Nat) t v, Try.f7.params[j]? = some t → args[j]? = some v → Value.okWide Try.prog W .any base t v)
    (hW : DataW.Whole enc Try.prog Try.f7.params.toList Rows.fnOrderKeepsSpec.vars false W args.toList ds gs before)
    (hsz : (DataW.weightsEach Try.prog (Try.f7.params.toList ++ Rows.fnOrderKeepsSpec.plain.varTypes Try.prog) (ds ++ gs)).all (· ≤ reachBytes) = true) :
    Calls Try.prog 7 args W fun e W' => ∃ v, e = .returned v ∧ Rows.fnOrderKeepsSpec.post enc Try.prog Try.f7 false true false false W args v W' := by
  have hW' := hW
  obtain ⟨p, q, hA0, hV, rfl, hfz, hnd⟩ := hW
  have hA : DataW.TrodAll enc Try.prog W 0 (fun _ => true) true Try.f7.params.toList args.toList ds p := hA0
  rw [Try.params7] at hA hval hsz
  obtain ⟨v0, vs0, d0, ds0, p0, q0, hargs, rfl, rfl, h0, r0⟩ := trodAll_cons hA
  obtain ⟨v1, vs1, d1, ds1, p1, q1, rfl, rfl, rfl, h1, r1⟩ := trodAll_cons r0
  obtain ⟨rfl, rfl, rfl⟩ := trodAll_nil r1
  obtain rfl : args = #[v0, v1] := by cases args; simp_all
  obtain ⟨rfl, rfl⟩ := trodVars_none hV
  have k0 := h0
  have lt0 : ∀ x ∈ p0, x.block < W.heap.size := by obtain ⟨m, hm⟩ := k0; exact DataW.trod_lt m _ _ _ hm
  have k1 := h1
  have lt1 : ∀ x ∈ p1, x.block < W.heap.size := by obtain ⟨m, hm⟩ := k1; exact DataW.trod_lt m _ _ _ hm
  obtain ⟨x0, a0, c0, l0, rfl, wx0, hs0, hn0⟩ := open_order Try.underlying24 (by kernel_rfl) (by kernel_rfl) Try.underlying3 Try.underlying22 Try.underlying4 (by kernel_rfl) (by kernel_rfl) (hval 0 24 v0 rfl rfl) h0 hsz (j := 0) rfl rfl
  obtain ⟨a1, len1, c1, rfl⟩ := okWide_slice Try.underlying25 (hval 1 25 v1 rfl rfl)
  obtain ⟨l1, rfl, hs1, hw1, hd1⟩ := open_nums Try.underlying25 Try.underlying3 (by kernel_rfl) h1
  have hn1 := nums_reach hsz (j := 1) rfl rfl Try.underlying25 (show Try.prog.bytesOf 3 = 8 by kernel_rfl) hd1
  clear hA0 hsz
  refine (fnOrderKeeps_any x0 a0 c0 l0 a1 c1 l1 W wx0 hs0 hn0 hs1 hw1 hn1).mono fun e W' ⟨he, bel⟩ => ?_
  subst he
  exact ⟨_, rfl, _, _, _, [], _, [], hW', trodAll_mk1 (shut_bool Try.underlying4 _), (trodAll_cons_mk (Below.trod Try.laidOut (by kernel_rfl) (of_decide_eq_true (by kernel_rfl)) k0 bel lt0) (trodAll_cons_mk (Below.trod Try.laidOut (by kernel_rfl) (of_decide_eq_true (by kernel_rfl)) k1 bel lt1) trodAll_mk0)), rfl, bel.frame _, fun h => by cases h⟩

set_option maxRecDepth 100000 in
theorem fnOrderKeeps_lifted (os : Os) (started : os.Started) (H : Type) (enc : TypeId × Value → H) :
    ReturnsInHanded {} Try.checked os 7 .any (Rows.fnOrderKeepsSpec.pre6 enc Try.prog Try.f7 Rows.fnOrderKeepsRow.domain false) (Rows.fnOrderKeepsSpec.post enc Try.prog Try.f7 false true false false) := by
  refine returnsInHanded_of_change_sized (C := Try.checked) Try.own started (by kernel_rfl) Try.func7
    (ChangeSpec.witness6 (enc := enc) (C := Try.checked) false ⟨#[], #[.agg #[.int .i64 0, .slice none 0 0], .slice none 0 0], []⟩ 8 (by kernel_rfl) (by kernel_rfl) (by kernel_rfl) (by kernel_rfl)) ?_
  intro W base args ds gs before hval hW _ hsz _
  exact fnOrderKeeps_contract H enc W base args ds gs before hval hW hsz

theorem fnOrderKeeps_holds : Rows.FnOrderKeepsSaid :=
  OpenClaim.holds_of_wide 7 Try.f7 rfl rfl rfl rfl rfl rfl rfl ⟨rfl, rfl, rfl, rfl, rfl⟩ rfl rfl rfl rfl rfl (by kernel_rfl) Try.func7 (by kernel_rfl)
    (of_decide_eq_true (by kernel_rfl)) (by unfold Func.isWrapper; first | (rw [if_pos (by decide +kernel)]; kernel_rfl) | (rw [if_neg (by decide +kernel)]; exact ⟨rfl, rfl⟩))
    (fun os started H enc _ => fnOrderKeeps_lifted os started H enc)
#print axioms fnOrderKeeps_holds
end Go.Proofs.Ytgijkfkfifjokaa
