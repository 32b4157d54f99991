/- qReplayed: the calls of a trail lead from the list to its end. -/
import Derived.Test.YtejhccnhkmkchaaWatchPlain
import Derived.Test.YtejhccnhkmkchaaItemPush
namespace Go.Proofs.Ytejhccnhkmkchaa
set_option linter.unusedVariables false
open Go.RowKit

def Replayed (w : World) (s : St) (e : Ending) (w' : World) : Prop :=
  ∃ A c A2 c2, e = .returned (.tuple #[.slice A s.1.length c, .slice A2 s.2.length c2, .bool true]) ∧ w'.ownsRow w.heap.size TI 2 (.slice A s.1.length c) s.1.length (ics s.1) ∧ w'.ownsRow w.heap.size TI 2 (.slice A2 s.2.length c2) s.2.length (ics s.2) ∧ Below w.heap.size w w'
theorem stp_len {s s' : St} {c : Cal} (h : Stp s c s') : s'.1.length ≤ s.1.length + 1 ∧ s'.2.length ≤ s.2.length + 1 := by
  rcases h with ⟨h, o, i, j, _, _, rfl, _, rfl⟩ | ⟨h, o, i, j, _, _, rfl, _, rfl⟩ | ⟨h, o, k, t, rfl, _, rfl⟩ | ⟨h, o, n, k, t, _, _, rfl, _, rfl⟩ <;> simp
  omega
theorem trail_len {st : Nat → St} {cs : List Cal} {x : List (Int × Int)} (h0 : st 0 = (x, [])) (hst : ∀ k (h : k < cs.length), Stp (st k) cs[k] (st (k + 1))) : ∀ k, k ≤ cs.length → (st k).1.length ≤ x.length + k ∧ (st k).2.length ≤ k
  | 0, _ => by rw [h0]; simp
  | k + 1, h => by
    have h1 := trail_len h0 hst k (by omega)
    have h2 := stp_len (hst k (by omega))
    omega
def Apart (v v' : Value) : Prop := ∀ g, v.ownBlock = some g → v'.ownBlock ≠ some g

theorem apart_or {v v' : Value} (h : Apart v v') : v'.ownBlock = none ∨ v'.ownBlock ≠ v.ownBlock := by
  cases e : v'.ownBlock with
  | none => exact .inl rfl
  | some g => exact .inr fun e2 => h g e2.symm e
theorem apart_new {v v1 v' : Value} {n : Nat} (h : Apart v v') (hat : v1.ownBlock = v.ownBlock ∨ v1.ownBlock = some n) (hlt : ∀ g, v'.ownBlock = some g → g < n) : Apart v1 v' := by
  intro g hg hg'
  rcases hat with e | e
  · exact h g (e ▸ hg) hg'
  · rw [e] at hg
    injection hg with hg
    have := hlt g hg'
    omega
theorem apart_symm {v v' : Value} (h : Apart v v') : Apart v' v := fun g hg hg' => h g hg' hg

set_option maxHeartbeats 4000000 in
set_option maxRecDepth 100000 in
theorem qReplayed_any (A : Option Addr) (c : Nat) (x : List (Int × Int)) (A2 : Option Addr) (c2 : Nat) (cs : List Cal) (w : World) (hsx : Sees w w.heap.size 2 A x.length (ics x)) (hsc : Sees w w.heap.size 4 A2 cs.length (ccs cs))
    (st : Nat → St) (h0 : st 0 = (x, [])) (hst : ∀ k (h : k < cs.length), Stp (st k) cs[k] (st (k + 1))) (hn : (x.length + cs.length) * 16 ≤ 140737488355328) :
    Calls Try.prog 10 #[.slice A x.length c, .slice A2 cs.length c2] w (Replayed w (st cs.length)) := by
  obtain ⟨i0, hi, hz0, hz1, hz2⟩ := info_parts info_item
  have HSX := Lib.hid hsx
  have HSC := Lib.hid hsc
  have HST := Lib.hid hst
  have HLN := Lib.hid (trail_len h0 hst)
  have H0 := Lib.hid h0
  clear hsx hsc hst h0
  go_enter Try.func10, Try.ntmps10
  go_wp2_with (
    at_builtin
    (refine wpList_append_row _ rfl (.const (.slice none 0 0)) (.tmp 12) 25 rfl w.heap.size TI i0 _ 2 16 Try.underlying25 hi hz0 hz1 hz2 rfl (by decide) (.slice none 0 0) 0 [] rfl (World.ownsRow_nil _ _ _ _) w.heap.size A x.length c (ics x) rfl HSX.out (ics_cells x) ?_ ?_ (Nat.le_refl _) ?_)
    · unfold maxLen; omega
    · omega
    intro A1 c1 w1 ho1 hg1 _
    simp only [Nat.zero_add, List.nil_append] at ho1 ⊢
    have HO1 := Lib.hid ho1
    have HB1 := Lib.hid ((Below.refl w.heap.size w).grown hg1 (Nat.le_refl _) (by simp [Value.ownBlock]))
    clear ho1 hg1)
  go_loopg [7, 8, 16] cs.length (fun m vh vo i wr => ∃ (k : Nat) (Ah : Option Addr) (ch : Nat) (Ao : Option Addr) (co : Nat), i = .int .i64 k ∧ k + m = cs.length ∧ vh = .slice Ah (st k).1.length ch ∧ vo = .slice Ao (st k).2.length co ∧
    Hid (wr.ownsRow w.heap.size TI 2 (.slice Ah (st k).1.length ch) (st k).1.length (ics (st k).1)) ∧ Hid (wr.ownsRow w.heap.size TI 2 (.slice Ao (st k).2.length co) (st k).2.length (ics (st k).2)) ∧ Hid (Apart (.slice Ah (st k).1.length ch) (.slice Ao (st k).2.length co)) ∧ Hid (Below w.heap.size w wr))
  case atStart =>
    refine ⟨0, A1, c1, none, 0, rfl, by omega, ?_, ?_, ?_, ?_, ?_, HB1⟩
    · rw [H0.out]
    · rw [H0.out]; rfl
    · rw [H0.out]; exact HO1
    · rw [H0.out]; exact Lib.hid (World.ownsRow_nil _ _ _ _)
    · exact Lib.hid (fun g _ => by simp [Value.ownBlock])
  case round =>
    clear HO1 HB1
    obtain ⟨k, Ah, ch, Ao, co, rfl, hk, rfl, rfl, HOH, HOO, HAP, HB⟩ := hrel
    by_cases hlt : k < cs.length
    · obtain ⟨b, off, rfl, hbw, hc⟩ := HSC.out.cellAt (by omega) HB.out
      have c0 := hc (k * 4) _ (ccs_kind cs k hlt)
      have c1' := hc (k * 4 + 1) _ (ccs_len cs k hlt)
      have c2' := hc (k * 4 + 2) _ (ccs_i cs k hlt)
      have c3 := hc (k * 4 + 3) _ (ccs_j cs k hlt)
      rw [← Nat.add_assoc] at c1' c2' c3
      clear hc
      have hbw' : b < wr.heap.size := Nat.lt_of_lt_of_le hbw HB.out.size
      have hstep := HST.out k hlt
      have hln := HLN.out k (by omega)
      obtain ⟨q, hq⟩ : ∃ q, cs[k] = q := ⟨_, rfl⟩
      rw [hq] at c0 c1' c2' c3 hstep
      obtain ⟨s', hs'⟩ : ∃ s', st (k + 1) = s' := ⟨_, rfl⟩
      rw [hs'] at hstep
      have HS' := Lib.hid hs'
      have hk' := Lib.hid hk
      have hkl : k + 1 ≤ cs.length := hlt
      clear hk hs' hq
      generalize st k = s at *
      rcases hstep with ⟨h, o, i, j, hi', hj', rfl, rfl, rfl⟩ | ⟨h, o, i, j, hi', hj', rfl, rfl, rfl⟩ | ⟨h, o, kk, tt, rfl, rfl, rfl⟩ | ⟨h, o, n, kk, tt, hn1, hk1, rfl, rfl, rfl⟩
      · dsimp only at *
        have t0 : ((h.length : Int) != (h.length : Int)) = false := by simp
        have t1 : decide (h.length ≤ i) = false := decide_eq_false (by omega)
        have t2 : decide (h.length ≤ j) = false := decide_eq_false (by omega)
        have t3 : decide ((i : Int) < 0) = false := decide_eq_false (by omega)
        have t4 : decide ((j : Int) < 0) = false := decide_eq_false (by omega)
        go_wp2
        go_roundg (cs.length - (k + 1))
        case measure => have := hk'.out; omega
        case rel =>
          refine ⟨k + 1, Ah, ch, Ao, co, by go_num, by omega, by rw [HS'.out], by rw [HS'.out], ?_, ?_, ?_, Lib.hid (HB.out.alloc HB.out.size _)⟩
          · rw [HS'.out]; exact Lib.hid (HOH.out.alloc _)
          · rw [HS'.out]; exact Lib.hid (HOO.out.alloc _)
          · rw [HS'.out]; exact HAP
      · dsimp only at *
        obtain ⟨g, cap, hv, _, hlg⟩ := HOH.out.form (by omega)
        obtain ⟨rfl, rfl⟩ : Ah = some ⟨g, 0, none⟩ ∧ ch = cap := by simpa using hv
        have d0 : wr.cell? ⟨g, i * 2, none⟩ = some (.int .i64 h[i].1) := by rw [HOH.out.cellAt _ (by omega), ics_key h i hi']
        have d1 : wr.cell? ⟨g, i * 2 + 1, none⟩ = some (.int .i64 h[i].2) := by rw [HOH.out.cellAt _ (by omega), ics_tag h i hi']
        have d2 : wr.cell? ⟨g, j * 2, none⟩ = some (.int .i64 h[j].1) := by rw [HOH.out.cellAt _ (by omega), ics_key h j hj']
        have d3 : wr.cell? ⟨g, j * 2 + 1, none⟩ = some (.int .i64 h[j].2) := by rw [HOH.out.cellAt _ (by omega), ics_tag h j hj']
        have hfz := Lib.hid (show ∀ o, wr.frozen? ⟨g, o, none⟩ = false from fun o => HOH.out.frozenAt o)
        have HSW := Lib.hid (show ∀ W, Below wr.heap.size wr W → ((((W.setCell ⟨g, i * 2, none⟩ (.int .i64 h[j].1)).setCell ⟨g, i * 2 + 1, none⟩ (.int .i64 h[j].2)).setCell ⟨g, j * 2, none⟩ (.int .i64 h[i].1)).setCell ⟨g, j * 2 + 1, none⟩ (.int .i64 h[i].2)).ownsRow w.heap.size TI 2 (.slice (some ⟨g, 0, none⟩) h.length ch) h.length (ics (swp h i j)) from fun W hb => own_swap2 (own_below HOH.out hb (own_lt HOH.out)) hi' hj')
        have hgw : w.heap.size ≤ g := (HOH.out.lt g rfl).1
        have HOA := Lib.hid (show (Value.slice Ao o.length co).ownBlock ≠ some g from fun e => HAP.out g rfl e)
        clear hv
        generalize h[i].1 = ki at *
        generalize h[i].2 = ti at *
        generalize h[j].1 = kj at *
        generalize h[j].2 = tj at *
        have t0 : ((h.length : Int) != (h.length : Int)) = false := by simp
        have t1 : decide (h.length ≤ i) = false := decide_eq_false (by omega)
        have t2 : decide (h.length ≤ j) = false := decide_eq_false (by omega)
        have t3 : decide ((i : Int) < 0) = false := decide_eq_false (by omega)
        have t4 : decide ((j : Int) < 0) = false := decide_eq_false (by omega)
        go_wp2_with fail
        obtain ⟨W3, hW3⟩ : ∃ W, W = (wr.alloc (.cells #[.int .i64 2, .int .i64 h.length, .int .i64 i, .int .i64 j] TC)).alloc (.cells #[.int .i64 ki, .int .i64 ti] TI) := ⟨_, rfl⟩
        rw [← hW3]
        have hb3 : Below wr.heap.size wr W3 := by rw [hW3]; exact ((Below.refl _ _).alloc (Nat.le_refl _) _).alloc (by simp) _
        have hbx : Blk W3 wr.heap.size TC #[.int .i64 2, .int .i64 h.length, .int .i64 i, .int .i64 j] := by rw [hW3]; exact (Blk.new _ _ _).alloc _
        have hbi : Blk W3 (wr.heap.size + 1) TI #[.int .i64 ki, .int .i64 ti] := by rw [hW3]; have := Blk.new (wr.alloc (.cells #[.int .i64 2, .int .i64 h.length, .int .i64 i, .int .i64 j] TC)) TI #[.int .i64 ki, .int .i64 ti]; simpa only [size_alloc_] using this
        have x2 : W3.cell? ⟨wr.heap.size, 2, none⟩ = some (.int .i64 i) := hbx.cell 2
        have x3 : W3.cell? ⟨wr.heap.size, 3, none⟩ = some (.int .i64 j) := hbx.cell 3
        have y0 : W3.cell? ⟨wr.heap.size + 1, 0, none⟩ = some (.int .i64 ki) := hbi.cell 0
        have y1 : W3.cell? ⟨wr.heap.size + 1, 1, none⟩ = some (.int .i64 ti) := hbi.cell 1
        have e0 := (hb3.cell (p := ⟨g, i * 2, none⟩) hlg).trans d0
        have e1 := (hb3.cell (p := ⟨g, i * 2 + 1, none⟩) hlg).trans d1
        have e2 := (hb3.cell (p := ⟨g, j * 2, none⟩) hlg).trans d2
        have e3 := (hb3.cell (p := ⟨g, j * 2 + 1, none⟩) hlg).trans d3
        have hf : ∀ o, W3.frozen? ⟨g, o, none⟩ = false := fun o => (hb3.frozen (p := ⟨g, o, none⟩) hlg).trans (hfz.out o)
        have n1 : ¬ g = wr.heap.size := by omega
        have n2 : ¬ g = wr.heap.size + 1 := by omega
        have n3 : ¬ wr.heap.size = g := by omega
        have n4 : ¬ wr.heap.size + 1 = g := by omega
        have hlg3 : g < W3.heap.size := Nat.lt_of_lt_of_le hlg hb3.size
        have HB3 := Lib.hid (HB.out.trans (hb3.mono HB.out.size))
        have HOO3 := Lib.hid (own_below HOO.out hb3 (own_lt HOO.out))
        have HSW3 := Lib.hid (HSW.out W3 hb3)
        have lx : wr.heap.size < W3.heap.size := hbx.lt
        have ly : wr.heap.size + 1 < W3.heap.size := hbi.lt
        clear hW3 hb3 hbx hbi d0 d1 d2 d3 c0 c1' c2' c3 hlg hbw'
        obtain ⟨v1, hy1⟩ := cell?_setCell_some (w := W3) (p := ⟨g, i * 2, none⟩) (x := .int .i64 kj) (q := ⟨g, j * 2, none⟩) e2
        obtain ⟨v0, hy0⟩ := cell?_setCell_some (w := W3) (p := ⟨g, i * 2, none⟩) (x := .int .i64 kj) (q := ⟨g, j * 2 + 1, none⟩) e3
        obtain ⟨v2, hy2⟩ := cell?_setCell_some (w := W3.setCell ⟨g, i * 2, none⟩ (.int .i64 kj)) (p := ⟨g, i * 2 + 1, none⟩) (x := .int .i64 tj) (q := ⟨g, j * 2 + 1, none⟩) hy0
        obtain ⟨v3, hy3⟩ := cell?_setCell_some (w := W3.setCell ⟨g, i * 2, none⟩ (.int .i64 kj)) (p := ⟨g, i * 2 + 1, none⟩) (x := .int .i64 tj) (q := ⟨g, j * 2, none⟩) hy1
        go_region
        go_wp2
        go_roundg (cs.length - (k + 1))
        case measure => have := hk'.out; omega
        case rel =>
          have hl : (swp h i j).length = h.length := length_swp _ _ _
          refine ⟨k + 1, some ⟨g, 0, none⟩, ch, Ao, co, by go_num, by omega, by rw [HS'.out]; dsimp only; rw [hl], by rw [HS'.out], ?_, ?_, ?_, ?_⟩
          · rw [HS'.out]; dsimp only; rw [hl]; exact Lib.hid HSW3.out.drew
          · rw [HS'.out]; exact Lib.hid (own_setCell_other (own_setCell_other (own_setCell_other (own_setCell_other HOO3.out HOA.out _) HOA.out _) HOA.out _) HOA.out _).drew
          · rw [HS'.out]; dsimp only; rw [hl]; exact HAP
          · exact Lib.hid ((((HB3.out.setCell (p := ⟨g, i * 2, none⟩) hgw _).setCell (p := ⟨g, i * 2 + 1, none⟩) hgw _).setCell (p := ⟨g, j * 2, none⟩) hgw _).setCell (p := ⟨g, j * 2 + 1, none⟩) hgw _).drew
      · dsimp only at *
        have t0 : ((h.length : Int) != (h.length : Int)) = false := by simp
        go_wp2_with (
          at_builtin
          (refine wpList_append_row _ rfl (.tmp 76) (.tmp 82) 25 rfl w.heap.size TI i0 _ 2 16 Try.underlying25 hi hz0 hz1 hz2 rfl (by decide) (.slice Ah h.length ch) h.length (ics h) rfl ?_ (wr.heap.size + 2) (some ⟨wr.heap.size + 1, 0, none⟩) 1 1 [.int .i64 kk, .int .i64 tt] rfl ?_ (two_cells _ _) ?_ ?_ ?_ ?_)
          · exact (HOH.out.alloc _).alloc _
          · exact sees_new2 rfl
          · unfold maxLen; omega
          · omega
          · have := HB.out.size; simp; omega
          intro A4 c4 w4 hown hg hat
          have HO4 := Lib.hid hown
          have HOO4 := Lib.hid (((HOO.out.alloc _).alloc _).kept hg (apart_or HAP.out))
          have HAP4 := Lib.hid (apart_new HAP.out hat (fun g hg' => by have := (HOO.out.lt g hg').2; simp; omega))
          have HB4 := Lib.hid (((HB.out.alloc HB.out.size _).alloc (Nat.le_trans HB.out.size (by simp)) _).grown hg (by have := HB.out.size; simp; omega) (fun g hgg => (HOH.out.lt g hgg).1))
          clear hown hg hat)
        go_roundg (cs.length - (k + 1))
        case measure => have := hk'.out; omega
        case rel =>
          have hl : (h ++ [(kk, tt)]).length = h.length + 1 := by simp
          refine ⟨k + 1, A4, c4, Ao, co, by go_num, by omega, by rw [HS'.out]; dsimp only; rw [hl], by rw [HS'.out], ?_, ?_, ?_, HB4⟩
          · rw [HS'.out]; dsimp only; rw [hl, ics_append]; exact HO4
          · rw [HS'.out]; exact HOO4
          · rw [HS'.out]; dsimp only; rw [hl]; exact HAP4
      · dsimp only at *
        obtain ⟨g, cap, hv, _, hlg⟩ := HOH.out.form (by omega)
        obtain ⟨rfl, rfl⟩ : Ah = some ⟨g, 0, none⟩ ∧ ch = cap := by simpa using hv
        have hnl : n < h.length := by omega
        rw [at_get _ hnl] at hk1
        have d0 : wr.cell? ⟨g, n * 2, none⟩ = some (.int .i64 kk) := by rw [HOH.out.cellAt _ (by omega), ics_key h n hnl, hk1]
        have d1 : wr.cell? ⟨g, n * 2 + 1, none⟩ = some (.int .i64 tt) := by rw [HOH.out.cellAt _ (by omega), ics_tag h n hnl, hk1]
        have hcap := own_cap HOH.out
        rw [hn1] at HOH HAP hcap ⊢
        have hln2 : n ≤ x.length + k := by omega
        have hln3 : o.length ≤ k := by omega
        have HL1 := Lib.hid hn1
        clear hv hn1 hk1 hnl hln
        have t0 : (((n : Int) + 1) != ((n : Int) + 1)) = false := by simp
        have t1 : (((n : Int) + 1) == 0) = false := by rw [beq_eq_false_iff_ne]; omega
        go_wp2_with fail
        go_quiet (fail)
        obtain ⟨W3, hW3⟩ : ∃ W, W = (wr.alloc (.cells #[.int .i64 4, .int .i64 ((n : Int) + 1), .int .i64 kk, .int .i64 tt] TC)).drewN nq := ⟨_, rfl⟩
        rw [← hW3]
        have hb3 : Below wr.heap.size wr W3 := by rw [hW3]; exact below_drewN ((Below.refl _ _).alloc (Nat.le_refl _) _) nq
        have HOH3 := Lib.hid (own_below HOH.out hb3 (own_lt HOH.out))
        have HOO3 := Lib.hid (own_below HOO.out hb3 (own_lt HOO.out))
        have HB3 := Lib.hid (HB.out.trans (hb3.mono HB.out.size))
        have d0' := (hb3.cell (p := ⟨g, n * 2, none⟩) hlg).trans d0
        have d1' := (hb3.cell (p := ⟨g, n * 2 + 1, none⟩) hlg).trans d1
        have hlg3 : g < W3.heap.size := Nat.lt_of_lt_of_le hlg hb3.size
        have HLT := Lib.hid (show ∀ g', (Value.slice (some ⟨g, 0, none⟩) (n + 1) ch).ownBlock = some g' → g' < W3.heap.size from own_lt HOH3.out)
        clear hW3 hb3 d0 d1 c0 c1' c2' c3 hlg hbw'
        go_wp2_with (
          at_builtin
          (refine wpList_append_row _ rfl (.tmp 103) (.tmp 110) 25 rfl w.heap.size TI i0 _ 2 16 Try.underlying25 hi hz0 hz1 hz2 rfl (by decide) (.slice Ao o.length co) o.length (ics o) rfl ?_ (W3.heap.size + 1) (some ⟨W3.heap.size, 0, none⟩) 1 1 [.int .i64 kk, .int .i64 tt] rfl ?_ (two_cells _ _) ?_ ?_ ?_ ?_)
          · exact HOO3.out.alloc _
          · exact sees_new rfl
          · unfold maxLen; omega
          · omega
          · have := HB3.out.size; simp; omega
          intro A4 c4 w4 hown hg hat
          have HO4 := Lib.hid hown
          have HOH4 := Lib.hid ((HOH3.out.alloc _).kept hg (apart_or (apart_symm HAP.out)))
          have HAP4 := Lib.hid (apart_symm (apart_new (apart_symm HAP.out) hat (fun g' hg' => by have := HLT.out g' hg'; simp; omega)))
          have HB4 := Lib.hid ((HB3.out.alloc HB3.out.size _).grown hg (by have := HB3.out.size; simp; omega) (fun g hgg => (HOO3.out.lt g hgg).1))
          clear hown hg hat)
        go_roundg (cs.length - (k + 1))
        case measure => have := hk'.out; omega
        case rel =>
          have hl : (o ++ [(kk, tt)]).length = o.length + 1 := by simp
          have hl2 : (h.take n).length = n := by have := HL1.out; rw [List.length_take]; omega
          refine ⟨k + 1, some ⟨g, 0, none⟩, ch, A4, c4, by go_num, by omega, by rw [HS'.out]; dsimp only; rw [hl2], by rw [HS'.out]; dsimp only; rw [hl], ?_, ?_, ?_, HB4⟩
          · rw [HS'.out]; dsimp only; rw [hl2, ics_take]; exact Lib.hid (own_shrink HOH4.out)
          · rw [HS'.out]; dsimp only; rw [hl, ics_append]; exact HO4
          · rw [HS'.out]; dsimp only; rw [hl, hl2]; exact Lib.hid (fun g' hg' => HAP4.out g' hg')
    · obtain rfl : k = cs.length := by omega
      go_wp2
      exact bodyPost_ret (v := .tuple #[.slice Ah (st cs.length).1.length ch, .slice Ao (st cs.length).2.length co, .bool true]) (by simp [results, Try.results10, go_sem]) rfl ⟨Ah, ch, Ao, co, rfl, HOH.out, HOO.out, HB.out⟩

/-- Two new slices and the answer true are handed back. -/
def Replay2 (w : World) (H O : List (Int × Int)) (e : Ending) (w' : World) : Prop :=
  ∃ A c A2 c2, e = .returned (.tuple #[.slice A H.length c, .slice A2 O.length c2, .bool true]) ∧ w'.ownsRow w.heap.size TI 2 (.slice A H.length c) H.length (ics H) ∧ w'.ownsRow w.heap.size TI 2 (.slice A2 O.length c2) O.length (ics O) ∧ Below w.heap.size w w'
theorem replay_any (A : Option Addr) (c : Nat) (x : List (Int × Int)) (A2 : Option Addr) (c2 : Nat) (cs : List Cal) (H O : List (Int × Int)) (w : World) (hsx : Sees w w.heap.size 2 A x.length (ics x)) (hsc : Sees w w.heap.size 4 A2 cs.length (ccs cs))
    (ht : Trail (x, []) (H, O) cs) (hn : (x.length + cs.length) * 16 ≤ 140737488355328) :
    Calls Try.prog 10 #[.slice A x.length c, .slice A2 cs.length c2] w (Replay2 w H O) := by
  obtain ⟨st, h0, h1, h2⟩ := ht
  have h := qReplayed_any A c x A2 c2 cs w hsx hsc st h0 h2 hn
  rw [h1] at h
  exact h
end Go.Proofs.Ytejhccnhkmkchaa
