/- For every list of items and every item, FnPushCalls returns true: Push onto a list with heap order calls the method Push once, with the element, no method Pop, and otherwise Less and Swap with indices of the list; these calls make the list that it leaves. No condition. -/
import Derived.Test.YtejhccnhkmkchaaLawFns
import Derived.Test.YtejhccnhkmkchaaCallFns
import Derived.Test.YtejhccnhkmkchaaCallLaws
import Derived.Test.YtejhccnhkmkchaaReplay
import Derived.Test.YtejhccnhkmkchaaEqItems
import Derived.Test.YtejhccnhkmkchaaItemPush
import Derived.Test.YtejhccnhkmkchaaPushKind
import Derived.Test.YtejhccnhkmkchaaArgs
import Derived.Deep.RegionHeld3
namespace Go.Proofs.Ytejhccnhkmkchaa
set_option linter.unusedVariables false
open Go.RowKit Go.ChangeShapes Go.WideShapes Go.ChangeAt

set_option maxHeartbeats 1600000 in
theorem fnPushCalls_any (A : Option Addr) (c : Nat) (l : List (Int × Int)) (k t : Int) (w : World) (hs : Sees w w.heap.size 2 A l.length (ics l)) (hn : l.length * 16 ≤ 140737488351232) :
    Calls Try.prog 5 #[.slice A l.length c, .agg #[.int .i64 k, .int .i64 t]] w fun e w' => e = .returned (.bool true) ∧ Below w.heap.size w w' := by
  have Sx := Lib.hid hs
  clear hs
  by_cases hp : HeapOrd l
  · have hcl : ((pushCalls (bitsN l.length) l k t).2).length ≤ 200 := by have := pushCalls_short l k t; have := bits_small' l.length hn; omega
    have hcl1 : 1 ≤ ((pushCalls (bitsN l.length) l k t).2).length := pushCalls_length l k t
    have ha3 : cntK 3 ((pushCalls (bitsN l.length) l k t).2) = 1 := by have := (pushCalls_adds l k t).pushes; simpa [cntK] using this
    have ha4 : cntK 4 ((pushCalls (bitsN l.length) l k t).2) = 0 := by have := (pushCalls_adds l k t).pops; simpa [cntK] using this
    have hall : ∀ c ∈ (pushCalls (bitsN l.length) l k t).2, c.kind = 3 → c.len = l.length ∧ c.i = k ∧ c.j = t := pushCalls_kind l k t
    obtain ⟨CL, hCL⟩ : ∃ x : List Cal, (pushCalls (bitsN l.length) l k t).2 = x := ⟨_, rfl⟩
    rw [hCL] at hcl hcl1 ha3 ha4 hall
    have HCL := Lib.hid hCL
    clear hCL
    have HA3 := Lib.hid ha3
    have HA4 := Lib.hid ha4
    have HALL := Lib.hid hall
    clear ha3 ha4 hall
    obtain ⟨RO, hRO⟩ : ∃ x : List (Int × Int), ([] : List (Int × Int)) = x := ⟨_, rfl⟩
    have HRO := Lib.hid hRO
    clear hRO
    have HB0 := Lib.hid (Below.refl w.heap.size w)
    go_enter Try.func5, Try.ntmps5
    go_wp2_with fail
    obtain ⟨W1, hW1⟩ : ∃ W : World, W = (w.alloc (.cells #[.int .i64 k, .int .i64 t] 35)) := ⟨_, rfl⟩
    rw [← hW1]
    have hb1 : Below w.heap.size w W1 := by rw [hW1]; exact ((Below.refl _ _).alloc (Nat.le_refl _) _)
    have hku1 : Blk W1 (w.heap.size) 35 #[.int .i64 k, .int .i64 t] := by rw [hW1]; exact Blk.new _ _ _
    have Sx_1 := Lib.hid ((Sx.out.below hb1).more hb1.size)
    have HB1 := Lib.hid (HB0.out.trans (hb1.mono HB0.out.size))
    have u0_1 : W1.cell? ⟨w.heap.size, 0, none⟩ = some (.int .i64 k) := hku1.cell 0
    have u1_1 : W1.cell? ⟨w.heap.size, 1, none⟩ = some (.int .i64 t) := hku1.cell 1
    have ltu_1 : w.heap.size < W1.heap.size := hku1.lt
    clear hku1
    clear hW1 hb1
    go_wp2_with fail
    (with_reducible refine (toItems_any A c l W1 Sx_1.out (by omega)).mono ?_)
    rintro e w2 ⟨A2, c2, rfl, ho2, hb2⟩
    have Sx_2 := Lib.hid ((Sx_1.out.below hb2).more hb2.size)
    have u0_2 := (hb2.cell (p := ⟨w.heap.size, 0, none⟩) ltu_1).trans u0_1
    have u1_2 := (hb2.cell (p := ⟨w.heap.size, 1, none⟩) ltu_1).trans u1_1
    have ltu_2 := Nat.lt_of_lt_of_le ltu_1 hb2.size
    have HB2 := Lib.hid (HB1.out.trans (hb2.mono HB1.out.size))
    have Sa_2 := Lib.hid (Sees.of_own ho2)
    clear ho2
    clear hb2
    go_wp2_with fail
    (with_reducible refine (calls_val (v' := .bool true) (quiet_below (heapOrdered_any A2 c2 (l) w2 _ Sa_2.out (by omega))) (by rw [(hoB_iff _).2 hp])).mono ?_)
    rintro e w3 ⟨rfl, hb3⟩
    have Sx_3 := Lib.hid ((Sx_2.out.below hb3).more hb3.size)
    have Sa_3 := Lib.hid ((Sa_2.out.below hb3).more hb3.size)
    have u0_3 := (hb3.cell (p := ⟨w.heap.size, 0, none⟩) ltu_2).trans u0_2
    have u1_3 := (hb3.cell (p := ⟨w.heap.size, 1, none⟩) ltu_2).trans u1_2
    have ltu_3 := Nat.lt_of_lt_of_le ltu_2 hb3.size
    have HB3 := Lib.hid (HB2.out.trans (hb3.mono HB2.out.size))
    clear hb3
    go_wp2_with fail
    obtain ⟨W4, hW4⟩ : ∃ W : World, W = (w3.alloc (.cells #[.int .i64 k, .int .i64 t] 36)) := ⟨_, rfl⟩
    rw [← hW4]
    have hb4 : Below w3.heap.size w3 W4 := by rw [hW4]; exact ((Below.refl _ _).alloc (Nat.le_refl _) _)
    have hkv4 : Blk W4 (w3.heap.size) 36 #[.int .i64 k, .int .i64 t] := by rw [hW4]; exact Blk.new _ _ _
    have Sx_4 := Lib.hid ((Sx_3.out.below hb4).more hb4.size)
    have Sa_4 := Lib.hid ((Sa_3.out.below hb4).more hb4.size)
    have u0_4 := (hb4.cell (p := ⟨w.heap.size, 0, none⟩) ltu_3).trans u0_3
    have u1_4 := (hb4.cell (p := ⟨w.heap.size, 1, none⟩) ltu_3).trans u1_3
    have ltu_4 := Nat.lt_of_lt_of_le ltu_3 hb4.size
    have HB4 := Lib.hid (HB3.out.trans (hb4.mono HB3.out.size))
    have v0_4 : W4.cell? ⟨w3.heap.size, 0, none⟩ = some (.int .i64 k) := hkv4.cell 0
    have v1_4 : W4.cell? ⟨w3.heap.size, 1, none⟩ = some (.int .i64 t) := hkv4.cell 1
    have ltv_4 : w3.heap.size < W4.heap.size := hkv4.lt
    clear hkv4
    clear hW4 hb4
    have Sx_4d := Lib.hid (Sees.drewT Sx_4.out)
    have Sa_4d := Lib.hid (Sees.drewT Sa_4.out)
    have HB4d := Lib.hid HB4.out.drew
    go_region_held3 (fun w' => w'.cell? ⟨w.heap.size, 0, none⟩ = some (.int .i64 k) ∧ w'.cell? ⟨w.heap.size, 1, none⟩ = some (.int .i64 t) ∧ w'.cell? ⟨w3.heap.size, 0, none⟩ = some (.int .i64 k) ∧ w'.cell? ⟨w3.heap.size, 1, none⟩ = some (.int .i64 t)) (first | go_keep | (exact ⟨by assumption, by assumption, by assumption, by assumption⟩))
      (first
        | (go_at_call 15; (with_reducible refine (newc_eq (pushCalls_any (bitsN l.length) A5 c5 l k t w5 Sb_5.out (by omega) (push_fuel l) (Nat.le_trans (bits_small' l.length (by omega)) (by decide))) HCL.out).mono ?_); rintro e w6 ⟨A6, c6, rfl, ho6, hb6⟩; have Sx_6 := Lib.hid ((Sx_5.out.below hb6).more hb6.size); have Sa_6 := Lib.hid ((Sa_5.out.below hb6).more hb6.size); have Sb_6 := Lib.hid ((Sb_5.out.below hb6).more hb6.size); have u0_6 := (hb6.cell (p := ⟨w.heap.size, 0, none⟩) ltu_5).trans u0_5; have u1_6 := (hb6.cell (p := ⟨w.heap.size, 1, none⟩) ltu_5).trans u1_5; have ltu_6 := Nat.lt_of_lt_of_le ltu_5 hb6.size; have v0_6 := (hb6.cell (p := ⟨w3.heap.size, 0, none⟩) ltv_5).trans v0_5; have v1_6 := (hb6.cell (p := ⟨w3.heap.size, 1, none⟩) ltv_5).trans v1_5; have ltv_6 := Nat.lt_of_lt_of_le ltv_5 hb6.size; have HB6 := Lib.hid (HB5.out.trans (hb6.mono HB5.out.size)); have Sq_6 := Lib.hid (Sees.of_own ho6); clear ho6; clear hb6)
        | (go_at_call 9; (with_reducible refine (toItems_any A c l W4.drew Sx_4d.out (by omega)).mono ?_); rintro e w5 ⟨A5, c5, rfl, ho5, hb5⟩; have Sx_5 := Lib.hid ((Sx_4d.out.below hb5).more hb5.size); have Sa_5 := Lib.hid ((Sa_4d.out.below hb5).more hb5.size); have u0_5 := (hb5.cell (p := ⟨w.heap.size, 0, none⟩) ltu_4).trans u0_4; have u1_5 := (hb5.cell (p := ⟨w.heap.size, 1, none⟩) ltu_4).trans u1_4; have ltu_5 := Nat.lt_of_lt_of_le ltu_4 hb5.size; have v0_5 := (hb5.cell (p := ⟨w3.heap.size, 0, none⟩) ltv_4).trans v0_4; have v1_5 := (hb5.cell (p := ⟨w3.heap.size, 1, none⟩) ltv_4).trans v1_4; have ltv_5 := Nat.lt_of_lt_of_le ltv_4 hb5.size; have HB5 := Lib.hid (HB4d.out.trans (hb5.mono HB4d.out.size)); have Sb_5 := Lib.hid (Sees.of_own ho5); clear ho5; clear hb5))
    go_wp2_with fail
    (with_reducible refine (toItems_any A c l w6 Sx_6.out (by omega)).mono ?_)
    rintro e w7 ⟨A7, c7, rfl, ho7, hb7⟩
    have Sx_7 := Lib.hid ((Sx_6.out.below hb7).more hb7.size)
    have Sa_7 := Lib.hid ((Sa_6.out.below hb7).more hb7.size)
    have Sb_7 := Lib.hid ((Sb_6.out.below hb7).more hb7.size)
    have Sq_7 := Lib.hid ((Sq_6.out.below hb7).more hb7.size)
    have u0_7 := (hb7.cell (p := ⟨w.heap.size, 0, none⟩) ltu_6).trans u0_6
    have u1_7 := (hb7.cell (p := ⟨w.heap.size, 1, none⟩) ltu_6).trans u1_6
    have ltu_7 := Nat.lt_of_lt_of_le ltu_6 hb7.size
    have v0_7 := (hb7.cell (p := ⟨w3.heap.size, 0, none⟩) ltv_6).trans v0_6
    have v1_7 := (hb7.cell (p := ⟨w3.heap.size, 1, none⟩) ltv_6).trans v1_6
    have ltv_7 := Nat.lt_of_lt_of_le ltv_6 hb7.size
    have HB7 := Lib.hid (HB6.out.trans (hb7.mono HB6.out.size))
    have Sd_7 := Lib.hid (Sees.of_own ho7)
    clear ho7
    clear hb7
    go_wp2_with fail
    (with_reducible refine (replay_any A7 c7 l A6 c6 CL (pushF klt l (k, t)) RO w7 Sd_7.out Sq_7.out (by rw [← HRO.out, ← HCL.out]; exact pushCalls_trail l k t) (by omega)).mono ?_)
    rintro e w8 ⟨A8h, c8h, A8o, c8o, rfl, hh8, ho8, hb8⟩
    have Sx_8 := Lib.hid ((Sx_7.out.below hb8).more hb8.size)
    have Sa_8 := Lib.hid ((Sa_7.out.below hb8).more hb8.size)
    have Sb_8 := Lib.hid ((Sb_7.out.below hb8).more hb8.size)
    have Sq_8 := Lib.hid ((Sq_7.out.below hb8).more hb8.size)
    have Sd_8 := Lib.hid ((Sd_7.out.below hb8).more hb8.size)
    have u0_8 := (hb8.cell (p := ⟨w.heap.size, 0, none⟩) ltu_7).trans u0_7
    have u1_8 := (hb8.cell (p := ⟨w.heap.size, 1, none⟩) ltu_7).trans u1_7
    have ltu_8 := Nat.lt_of_lt_of_le ltu_7 hb8.size
    have v0_8 := (hb8.cell (p := ⟨w3.heap.size, 0, none⟩) ltv_7).trans v0_7
    have v1_8 := (hb8.cell (p := ⟨w3.heap.size, 1, none⟩) ltv_7).trans v1_7
    have ltv_8 := Nat.lt_of_lt_of_le ltv_7 hb8.size
    have HB8 := Lib.hid (HB7.out.trans (hb8.mono HB7.out.size))
    have Sh_8 := Lib.hid (Sees.of_own hh8)
    clear hh8
    have So_8 := Lib.hid (Sees.of_own ho8)
    clear ho8
    clear hb8
    go_wp2_with fail
    go_loopg [35] CL.length (fun m i wr => ∃ (n : Nat), i = .int .i64 n ∧ n + m = CL.length ∧ Hid (Below w8.heap.size w8 wr))
    case atStart => exact ⟨0, rfl, by omega, Below.refl _ _⟩
    case round =>
      obtain ⟨n, rfl, hk, HBL⟩ := hrel
      have x0 := (HBL.out.cell (p := ⟨w3.heap.size, 0, none⟩) ltv_8).trans v0_8
      have x1 := (HBL.out.cell (p := ⟨w3.heap.size, 1, none⟩) ltv_8).trans v1_8
      have xlt := Nat.lt_of_lt_of_le ltv_8 HBL.out.size
      by_cases hlt : n < CL.length
      · obtain ⟨bq, off, hAq, hbw, hc⟩ := Sq_8.out.cellAt (by omega) HBL.out
        have e0 := hc (n * 4) _ (ccs_kind CL n hlt)
        have e1 := hc (n * 4 + 1) _ (ccs_len CL n hlt)
        have e2 := hc (n * 4 + 2) _ (ccs_i CL n hlt)
        have e3 := hc (n * 4 + 3) _ (ccs_j CL n hlt)
        rw [← Nat.add_assoc] at e1 e2 e3
        clear hc
        subst hAq
        have hbw' : bq < wr.heap.size := Nat.lt_of_lt_of_le hbw HBL.out.size
        have hq3 := HALL.out CL[n] (List.getElem_mem hlt)
        have hk' := Lib.hid hk
        have hkl : n + 1 ≤ CL.length := hlt
        clear hk
        obtain ⟨⟨q0, q1, q2, q3⟩, hq⟩ : ∃ q, CL[n] = q := ⟨_, rfl⟩
        rw [hq] at e0 e1 e2 e3 hq3
        dsimp only at e0 e1 e2 e3 hq3
        clear hq
        by_cases h3 : q0 = 3
        · obtain ⟨rfl, rfl, rfl⟩ := hq3 h3
          subst h3
          go_wp2
          go_roundg (CL.length - (n + 1))
          case measure => have := hk'.out; omega
          case rel => exact ⟨n + 1, by go_num, by omega, Lib.hid (HBL.out.alloc HBL.out.size _)⟩
        · have hb0 : (q0 == 3) = false := beq_eq_false_iff_ne.2 h3
          clear h3 hq3
          go_wp2
          go_roundg (CL.length - (n + 1))
          case measure => have := hk'.out; omega
          case rel => exact ⟨n + 1, by go_num, by omega, Lib.hid (HBL.out.alloc HBL.out.size _)⟩
      · obtain rfl : n = CL.length := by omega
        have hbL := HBL.out
        clear HBL x0 x1 xlt
        have Sx_9 := Lib.hid ((Sx_8.out.below hbL).more hbL.size)
        have Sa_9 := Lib.hid ((Sa_8.out.below hbL).more hbL.size)
        have Sb_9 := Lib.hid ((Sb_8.out.below hbL).more hbL.size)
        have Sq_9 := Lib.hid ((Sq_8.out.below hbL).more hbL.size)
        have Sd_9 := Lib.hid ((Sd_8.out.below hbL).more hbL.size)
        have Sh_9 := Lib.hid ((Sh_8.out.below hbL).more hbL.size)
        have So_9 := Lib.hid ((So_8.out.below hbL).more hbL.size)
        have u0_9 := (hbL.cell (p := ⟨w.heap.size, 0, none⟩) ltu_8).trans u0_8
        have u1_9 := (hbL.cell (p := ⟨w.heap.size, 1, none⟩) ltu_8).trans u1_8
        have ltu_9 := Nat.lt_of_lt_of_le ltu_8 hbL.size
        have v0_9 := (hbL.cell (p := ⟨w3.heap.size, 0, none⟩) ltv_8).trans v0_8
        have v1_9 := (hbL.cell (p := ⟨w3.heap.size, 1, none⟩) ltv_8).trans v1_8
        have ltv_9 := Nat.lt_of_lt_of_le ltv_8 hbL.size
        have HB9 := Lib.hid (HB8.out.trans (hbL.mono HB8.out.size))
        clear hbL
        go_wp2_with fail
        have Sx_9d := Lib.hid (Sees.drewT Sx_9.out)
        have Sa_9d := Lib.hid (Sees.drewT Sa_9.out)
        have Sb_9d := Lib.hid (Sees.drewT Sb_9.out)
        have Sq_9d := Lib.hid (Sees.drewT Sq_9.out)
        have Sd_9d := Lib.hid (Sees.drewT Sd_9.out)
        have Sh_9d := Lib.hid (Sees.drewT Sh_9.out)
        have So_9d := Lib.hid (Sees.drewT So_9.out)
        have HB9d := Lib.hid HB9.out.drew
        go_region_held3 (fun w' => w'.cell? ⟨w.heap.size, 0, none⟩ = some (.int .i64 k) ∧ w'.cell? ⟨w.heap.size, 1, none⟩ = some (.int .i64 t) ∧ w'.cell? ⟨w3.heap.size, 0, none⟩ = some (.int .i64 k) ∧ w'.cell? ⟨w3.heap.size, 1, none⟩ = some (.int .i64 t)) (first | go_keep | (exact ⟨by assumption, by assumption, by assumption, by assumption⟩))
          (first
            | (go_at_call 13; (with_reducible refine (calls_val (v' := .bool true) (quiet_below (sameItems_any A8h A13 c8h c13 (pushF klt l (k, t)) (pushF klt l (k, t)) w13 _ _ Sh_13.out Sr_13.out (by simp only [pushF_length]; omega) (by simp only [pushF_length]; omega))) (by rw [decide_eq_true rfl])).mono ?_); rintro e w14 ⟨rfl, hb14⟩; have Sx_14 := Lib.hid ((Sx_13.out.below hb14).more hb14.size); have Sa_14 := Lib.hid ((Sa_13.out.below hb14).more hb14.size); have Sb_14 := Lib.hid ((Sb_13.out.below hb14).more hb14.size); have Sq_14 := Lib.hid ((Sq_13.out.below hb14).more hb14.size); have Sd_14 := Lib.hid ((Sd_13.out.below hb14).more hb14.size); have Sh_14 := Lib.hid ((Sh_13.out.below hb14).more hb14.size); have So_14 := Lib.hid ((So_13.out.below hb14).more hb14.size); have Sf_14 := Lib.hid ((Sf_13.out.below hb14).more hb14.size); have Sr_14 := Lib.hid ((Sr_13.out.below hb14).more hb14.size); have u0_14 := (hb14.cell (p := ⟨w.heap.size, 0, none⟩) ltu_13).trans u0_13; have u1_14 := (hb14.cell (p := ⟨w.heap.size, 1, none⟩) ltu_13).trans u1_13; have ltu_14 := Nat.lt_of_lt_of_le ltu_13 hb14.size; have v0_14 := (hb14.cell (p := ⟨w3.heap.size, 0, none⟩) ltv_13).trans v0_13; have v1_14 := (hb14.cell (p := ⟨w3.heap.size, 1, none⟩) ltv_13).trans v1_13; have ltv_14 := Nat.lt_of_lt_of_le ltv_13 hb14.size; have HB14 := Lib.hid (HB13.out.trans (hb14.mono HB13.out.size)); clear hb14)
            | (go_at_call 16; (with_reducible refine (heapPush_any A12 c12 (l) k t w12 Sf_12.out (by omega)).mono ?_); rintro e w13 ⟨A13, c13, rfl, ho13, hb13⟩; have Sx_13 := Lib.hid ((Sx_12.out.below hb13).more hb13.size); have Sa_13 := Lib.hid ((Sa_12.out.below hb13).more hb13.size); have Sb_13 := Lib.hid ((Sb_12.out.below hb13).more hb13.size); have Sq_13 := Lib.hid ((Sq_12.out.below hb13).more hb13.size); have Sd_13 := Lib.hid ((Sd_12.out.below hb13).more hb13.size); have Sh_13 := Lib.hid ((Sh_12.out.below hb13).more hb13.size); have So_13 := Lib.hid ((So_12.out.below hb13).more hb13.size); have Sf_13 := Lib.hid ((Sf_12.out.below hb13).more hb13.size); have u0_13 := (hb13.cell (p := ⟨w.heap.size, 0, none⟩) ltu_12).trans u0_12; have u1_13 := (hb13.cell (p := ⟨w.heap.size, 1, none⟩) ltu_12).trans u1_12; have ltu_13 := Nat.lt_of_lt_of_le ltu_12 hb13.size; have v0_13 := (hb13.cell (p := ⟨w3.heap.size, 0, none⟩) ltv_12).trans v0_12; have v1_13 := (hb13.cell (p := ⟨w3.heap.size, 1, none⟩) ltv_12).trans v1_12; have ltv_13 := Nat.lt_of_lt_of_le ltv_12 hb13.size; have HB13 := Lib.hid (HB12.out.trans (hb13.mono HB12.out.size)); have Sr_13 := Lib.hid (Sees.of_own ho13); clear ho13; clear hb13)
            | (go_at_call 9; (with_reducible refine (toItems_any A c l w11 Sx_11.out (by omega)).mono ?_); rintro e w12 ⟨A12, c12, rfl, ho12, hb12⟩; have Sx_12 := Lib.hid ((Sx_11.out.below hb12).more hb12.size); have Sa_12 := Lib.hid ((Sa_11.out.below hb12).more hb12.size); have Sb_12 := Lib.hid ((Sb_11.out.below hb12).more hb12.size); have Sq_12 := Lib.hid ((Sq_11.out.below hb12).more hb12.size); have Sd_12 := Lib.hid ((Sd_11.out.below hb12).more hb12.size); have Sh_12 := Lib.hid ((Sh_11.out.below hb12).more hb12.size); have So_12 := Lib.hid ((So_11.out.below hb12).more hb12.size); have u0_12 := (hb12.cell (p := ⟨w.heap.size, 0, none⟩) ltu_11).trans u0_11; have u1_12 := (hb12.cell (p := ⟨w.heap.size, 1, none⟩) ltu_11).trans u1_11; have ltu_12 := Nat.lt_of_lt_of_le ltu_11 hb12.size; have v0_12 := (hb12.cell (p := ⟨w3.heap.size, 0, none⟩) ltv_11).trans v0_11; have v1_12 := (hb12.cell (p := ⟨w3.heap.size, 1, none⟩) ltv_11).trans v1_11; have ltv_12 := Nat.lt_of_lt_of_le ltv_11 hb12.size; have HB12 := Lib.hid (HB11.out.trans (hb12.mono HB11.out.size)); have Sf_12 := Lib.hid (Sees.of_own ho12); clear ho12; clear hb12)
            | (go_at_call 12; (with_reducible refine (calls_val (v' := .int .i64 0) (qCount_any A6 c6 CL 4 w10 Sq_10.out (by omega)) (by rw [HA4.out]; simp)).mono ?_); rintro e w11 ⟨rfl, hb11⟩; have Sx_11 := Lib.hid ((Sx_10.out.below hb11).more hb11.size); have Sa_11 := Lib.hid ((Sa_10.out.below hb11).more hb11.size); have Sb_11 := Lib.hid ((Sb_10.out.below hb11).more hb11.size); have Sq_11 := Lib.hid ((Sq_10.out.below hb11).more hb11.size); have Sd_11 := Lib.hid ((Sd_10.out.below hb11).more hb11.size); have Sh_11 := Lib.hid ((Sh_10.out.below hb11).more hb11.size); have So_11 := Lib.hid ((So_10.out.below hb11).more hb11.size); have u0_11 := (hb11.cell (p := ⟨w.heap.size, 0, none⟩) ltu_10).trans u0_10; have u1_11 := (hb11.cell (p := ⟨w.heap.size, 1, none⟩) ltu_10).trans u1_10; have ltu_11 := Nat.lt_of_lt_of_le ltu_10 hb11.size; have v0_11 := (hb11.cell (p := ⟨w3.heap.size, 0, none⟩) ltv_10).trans v0_10; have v1_11 := (hb11.cell (p := ⟨w3.heap.size, 1, none⟩) ltv_10).trans v1_10; have ltv_11 := Nat.lt_of_lt_of_le ltv_10 hb11.size; have HB11 := Lib.hid (HB10.out.trans (hb11.mono HB10.out.size)); clear hb11)
            | (go_at_call 12; (with_reducible refine (calls_val (v' := .int .i64 1) (qCount_any A6 c6 CL 3 wr.drew Sq_9d.out (by omega)) (by rw [HA3.out]; simp)).mono ?_); rintro e w10 ⟨rfl, hb10⟩; have Sx_10 := Lib.hid ((Sx_9d.out.below hb10).more hb10.size); have Sa_10 := Lib.hid ((Sa_9d.out.below hb10).more hb10.size); have Sb_10 := Lib.hid ((Sb_9d.out.below hb10).more hb10.size); have Sq_10 := Lib.hid ((Sq_9d.out.below hb10).more hb10.size); have Sd_10 := Lib.hid ((Sd_9d.out.below hb10).more hb10.size); have Sh_10 := Lib.hid ((Sh_9d.out.below hb10).more hb10.size); have So_10 := Lib.hid ((So_9d.out.below hb10).more hb10.size); have u0_10 := (hb10.cell (p := ⟨w.heap.size, 0, none⟩) ltu_9).trans u0_9; have u1_10 := (hb10.cell (p := ⟨w.heap.size, 1, none⟩) ltu_9).trans u1_9; have ltu_10 := Nat.lt_of_lt_of_le ltu_9 hb10.size; have v0_10 := (hb10.cell (p := ⟨w3.heap.size, 0, none⟩) ltv_9).trans v0_9; have v1_10 := (hb10.cell (p := ⟨w3.heap.size, 1, none⟩) ltv_9).trans v1_9; have ltv_10 := Nat.lt_of_lt_of_le ltv_9 hb10.size; have HB10 := Lib.hid (HB9d.out.trans (hb10.mono HB9d.out.size)); clear hb10))
        go_wp2
        go_ret
        exact ⟨rfl, HB14.out⟩
  · have HB0 := Lib.hid (Below.refl w.heap.size w)
    go_enter Try.func5, Try.ntmps5
    go_wp2_with fail
    obtain ⟨W1, hW1⟩ : ∃ W : World, W = (w.alloc (.cells #[.int .i64 k, .int .i64 t] 35)) := ⟨_, rfl⟩
    rw [← hW1]
    have hb1 : Below w.heap.size w W1 := by rw [hW1]; exact ((Below.refl _ _).alloc (Nat.le_refl _) _)
    have hku1 : Blk W1 (w.heap.size) 35 #[.int .i64 k, .int .i64 t] := by rw [hW1]; exact Blk.new _ _ _
    have Sx_1 := Lib.hid ((Sx.out.below hb1).more hb1.size)
    have HB1 := Lib.hid (HB0.out.trans (hb1.mono HB0.out.size))
    have u0_1 : W1.cell? ⟨w.heap.size, 0, none⟩ = some (.int .i64 k) := hku1.cell 0
    have u1_1 : W1.cell? ⟨w.heap.size, 1, none⟩ = some (.int .i64 t) := hku1.cell 1
    have ltu_1 : w.heap.size < W1.heap.size := hku1.lt
    clear hku1
    clear hW1 hb1
    go_wp2_with fail
    (with_reducible refine (toItems_any A c l W1 Sx_1.out (by omega)).mono ?_)
    rintro e w2 ⟨A2, c2, rfl, ho2, hb2⟩
    have Sx_2 := Lib.hid ((Sx_1.out.below hb2).more hb2.size)
    have u0_2 := (hb2.cell (p := ⟨w.heap.size, 0, none⟩) ltu_1).trans u0_1
    have u1_2 := (hb2.cell (p := ⟨w.heap.size, 1, none⟩) ltu_1).trans u1_1
    have ltu_2 := Nat.lt_of_lt_of_le ltu_1 hb2.size
    have HB2 := Lib.hid (HB1.out.trans (hb2.mono HB1.out.size))
    have Sa_2 := Lib.hid (Sees.of_own ho2)
    clear ho2
    clear hb2
    go_wp2_with fail
    (with_reducible refine (calls_val (v' := .bool false) (quiet_below (heapOrdered_any A2 c2 (l) w2 _ Sa_2.out (by omega))) (by rw [hoB_false hp])).mono ?_)
    rintro e w3 ⟨rfl, hb3⟩
    have Sx_3 := Lib.hid ((Sx_2.out.below hb3).more hb3.size)
    have Sa_3 := Lib.hid ((Sa_2.out.below hb3).more hb3.size)
    have u0_3 := (hb3.cell (p := ⟨w.heap.size, 0, none⟩) ltu_2).trans u0_2
    have u1_3 := (hb3.cell (p := ⟨w.heap.size, 1, none⟩) ltu_2).trans u1_2
    have ltu_3 := Nat.lt_of_lt_of_le ltu_2 hb3.size
    have HB3 := Lib.hid (HB2.out.trans (hb3.mono HB2.out.size))
    clear hb3
    go_wp2
    go_ret
    exact ⟨rfl, HB3.out⟩

set_option maxRecDepth 100000 in
theorem fnPushCalls_contract (H : Type) (enc : TypeId × Value → H) (W : World) (base : Nat) (args : Array Value) (ds gs : List (DataW H)) (before : List MemPlace)
    (hval : ∀ (j : Nat) t v, Try.f5.params[j]? = some t → args[j]? = some v → Value.okWide Try.prog W .any base t v)
    (hW : DataW.Whole enc Try.prog Try.f5.params.toList Rows.fnPushCallsSpec.vars false W args.toList ds gs before)
    (hsz : (DataW.weightsEach Try.prog (Try.f5.params.toList ++ Rows.fnPushCallsSpec.plain.varTypes Try.prog) (ds ++ gs)).all (· ≤ reachBytes) = true) :
    Calls Try.prog 5 args W fun e W' => ∃ v, e = .returned v ∧ Rows.fnPushCallsSpec.post enc Try.prog Try.f5 false true false false W args v W' := by
  have hW' := hW
  obtain ⟨p, q, hA0, hV, rfl, hfz, hnd⟩ := hW
  have hA : DataW.TrodAll enc Try.prog W 0 (fun _ => true) true Try.f5.params.toList args.toList ds p := hA0
  rw [Try.params5] at hA hval hsz
  obtain ⟨v0, vs0, d0, ds0, p0, q0, hargs, rfl, rfl, h0, r0⟩ := trodAll_cons hA
  obtain ⟨v1, vs1, d1, ds1, p1, q1, rfl, rfl, rfl, h1, r1⟩ := trodAll_cons r0
  obtain ⟨rfl, rfl, rfl⟩ := trodAll_nil r1
  obtain rfl : args = #[v0, v1] := by cases args; simp_all
  obtain ⟨rfl, rfl⟩ := trodVars_none hV
  have k0 := h0
  have lt0 : ∀ x ∈ p0, x.block < W.heap.size := by obtain ⟨m, hm⟩ := k0; exact DataW.trod_lt m _ _ _ hm
  have k1 := h1
  have lt1 : ∀ x ∈ p1, x.block < W.heap.size := by obtain ⟨m, hm⟩ := k1; exact DataW.trod_lt m _ _ _ hm
  obtain ⟨a0, len0, c0, rfl⟩ := okWide_slice Try.underlying22 (hval 0 22 v0 rfl rfl)
  obtain ⟨l0, rfl, hs0, hd0⟩ := open_items Try.underlying22 Try.underlying35 (by kernel_rfl) rfl rfl (by kernel_rfl) (by kernel_rfl) Try.underlying3 Try.underlying3 h0
  have hn0 := items_reach hsz (j := 0) rfl rfl Try.underlying22 (by kernel_rfl) hd0
  obtain ⟨x1, y1, rfl, hd1⟩ := open_item Try.underlying35 (by kernel_rfl) (by kernel_rfl) Try.underlying3 Try.underlying3 (hval 1 35 v1 rfl rfl) h1
  clear hA0 hsz
  refine (fnPushCalls_any a0 c0 l0 x1 y1 W hs0 hn0).mono fun e W' ⟨he, bel⟩ => ?_
  subst he
  exact ⟨_, rfl, _, _, _, [], _, [], hW', trodAll_mk1 (shut_bool Try.underlying4 _), (trodAll_cons_mk (Below.trod Try.laidOut (by kernel_rfl) (of_decide_eq_true (by kernel_rfl)) k0 bel lt0) (trodAll_cons_mk (Below.trod Try.laidOut (by kernel_rfl) (of_decide_eq_true (by kernel_rfl)) k1 bel lt1) trodAll_mk0)), rfl, bel.frame _, fun h => by cases h⟩

set_option maxRecDepth 100000 in
theorem fnPushCalls_lifted (os : Os) (started : os.Started) (H : Type) (enc : TypeId × Value → H) :
    ReturnsInHanded {} Try.checked os 5 .any (Rows.fnPushCallsSpec.pre6 enc Try.prog Try.f5 Rows.fnPushCallsRow.domain false) (Rows.fnPushCallsSpec.post enc Try.prog Try.f5 false true false false) := by
  refine returnsInHanded_of_change_sized (C := Try.checked) Try.own started (by kernel_rfl) Try.func5
    (ChangeSpec.witness6 (enc := enc) (C := Try.checked) false ⟨#[], #[.slice none 0 0, .agg #[.int .i64 0, .int .i64 0]], []⟩ 8 (by kernel_rfl) (by kernel_rfl) (by kernel_rfl) (by kernel_rfl)) ?_
  intro W base args ds gs before hval hW _ hsz _
  exact fnPushCalls_contract H enc W base args ds gs before hval hW hsz

theorem fnPushCalls_holds : Rows.FnPushCallsSaid :=
  OpenClaim.holds_of_wide 5 Try.f5 rfl rfl rfl rfl rfl rfl rfl ⟨rfl, rfl, rfl, rfl, rfl⟩ rfl rfl rfl rfl rfl (by kernel_rfl) Try.func5 (by kernel_rfl)
    (of_decide_eq_true (by kernel_rfl)) (by unfold Func.isWrapper; first | (rw [if_pos (by decide +kernel)]; kernel_rfl) | (rw [if_neg (by decide +kernel)]; exact ⟨rfl, rfl⟩))
    (fun os started H enc _ => fnPushCalls_lifted os started H enc)
#print axioms fnPushCalls_holds
end Go.Proofs.Ytejhccnhkmkchaa
