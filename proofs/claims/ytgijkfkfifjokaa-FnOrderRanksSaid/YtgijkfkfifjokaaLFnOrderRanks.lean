/- For all lists of numbers ranks and x, FnOrderRanks returns true: the pops after Init by the order of ranks have the ranks that sorting these gives. No condition. -/
import Derived.Test.YtgijkfkfifjokaaByOrder
import Derived.Test.YtgijkfkfifjokaaOrders
import Derived.Test.YtgijkfkfifjokaaSortInts
import Derived.Test.YtgijkfkfifjokaaRanks
import Derived.Test.YtgijkfkfifjokaaOrderArgs
import Derived.Test.YtgijkfkfifjokaaArgs
import Derived.Deep.RegionHeld3
import Derived.Deep.QuietTactic
import Derived.BigQuiet
namespace Go.Proofs.Ytgijkfkfifjokaa
set_option linter.unusedVariables false
open Go.RowKit Go.ChangeShapes Go.WideShapes Go.ChangeAt

/-- The order that is being built: its box, its table's row. -/
def TabAt (w : World) (pb : Nat) (n : Int) (bs : List Bool) (wr : World) : Prop :=
  Below w.heap.size w wr ∧ w.heap.size ≤ pb ∧ ∃ A c, Blk wr pb 28 #[.int .i64 n, .slice A bs.length c] ∧ wr.ownsRow w.heap.size 4 1 (.slice A bs.length c) bs.length (bs.map Value.bool)

theorem tab_more {w w3 : World} {pb : Nat} {n : Int} {bs : List Bool} {A A' : Option Addr} {c c' : Nat} {b : Bool} (hpb : w.heap.size ≤ pb) (hblk : Blk w3 pb 28 #[.int .i64 n, .slice A bs.length c]) (hb3 : Below w.heap.size w w3)
    (ho : w3.ownsRow w.heap.size 4 1 (.slice A' (bs.length + 1) c') (bs.length + 1) (bs.map Value.bool ++ [.bool b])) : TabAt w pb n (bs ++ [b]) (w3.setCell ⟨pb, 1, none⟩ (.slice A' (bs.length + 1) c')) := by
  have hl : (bs ++ [b]).length = bs.length + 1 := by simp
  refine ⟨hb3.setCell hpb _, hpb, A', c', ?_, ?_⟩
  · rw [hl]
    have h3 := hblk.set_ 1 (.slice A' (bs.length + 1) c')
    simpa using h3
  · rw [hl, List.map_append]
    exact own_setCell_other ho (own_blk_ne ho hblk (by decide)) _
theorem own_own_ne {w : World} {b1 b2 : Nat} {e e' : TypeId} {s1 s2 n1 n2 : Nat} {v v' : Value} {xs ys : List Value} (h : w.ownsRow b1 e s1 v n1 xs) (h' : w.ownsRow b2 e' s2 v' n2 ys) (hne : e ≠ e') (g : Nat) (hg : v.ownBlock = some g) : v'.ownBlock ≠ some g := by
  intro hg'
  rcases h.2 with ⟨rfl, _⟩ | ⟨g1, cap, cur, rfl, _, hh, _⟩
  · simp [Value.ownBlock] at hg
  · rcases h'.2 with ⟨rfl, _⟩ | ⟨g2, cap', cur', rfl, _, hh', _⟩
    · simp [Value.ownBlock] at hg'
    · have e1 : g1 = g := by simpa [Value.ownBlock] using hg
      have e2 : g2 = g := by simpa [Value.ownBlock] using hg'
      subst e1 e2
      rw [hh] at hh'
      injection hh' with hh'
      injection hh' with _ ht
      exact hne ht
theorem TabAt.alloc {w wr : World} {pb : Nat} {n : Int} {bs : List Bool} (h : TabAt w pb n bs wr) (o : Obj) : TabAt w pb n bs (wr.alloc o) := by
  obtain ⟨h1, h2, A, c, h3, h4⟩ := h
  exact ⟨h1.alloc h1.size o, h2, A, c, h3.alloc o, h4.alloc o⟩
theorem TabAt.grown {w wr w3 : World} {pb : Nat} {n : Int} {bs : List Bool} {v : Value} {m : Nat} {xs : List Value} (h : TabAt w pb n bs wr) (hv : wr.ownsRow w.heap.size 3 1 v m xs) (hg : wr.grownBy w3 v.ownBlock) : TabAt w pb n bs w3 := by
  obtain ⟨h1, h2, A, c, h3, h4⟩ := h
  refine ⟨h1.grown hg h1.size (fun g hgg => (hv.lt g hgg).1), h2, A, c, h3.grown hg (fun e => own_blk_ne hv h3 (by decide) e.symm), h4.kept hg ?_⟩
  by_cases e : (Value.slice A bs.length c).ownBlock = none
  · exact .inl e
  · refine .inr fun e2 => ?_
    obtain ⟨g, hg'⟩ := Option.ne_none_iff_exists'.1 e
    exact own_own_ne h4 hv (by decide) g hg' (e2 ▸ hg')

set_option maxHeartbeats 4000000 in
set_option maxRecDepth 100000 in
theorem fnOrderRanks_any (A : Option Addr) (c : Nat) (l : List Int) (A' : Option Addr) (c' : Nat) (l' : List Int) (w : World) (hs : Sees w w.heap.size 1 A l.length (l.map (Value.int .i64))) (hw : ∀ x ∈ l, (Lit.int .i64 x).wf = true) (hn : l.length * 8 ≤ 140737488351232) (hs' : Sees w w.heap.size 1 A' l'.length (l'.map (Value.int .i64))) (hw' : ∀ x ∈ l', (Lit.int .i64 x).wf = true) (hn' : l'.length * 8 ≤ 140737488351232) :
    Calls Try.prog 8 #[.slice A l.length c, .slice A' l'.length c'] w fun e w' => e = .returned (.bool true) ∧ Below w.heap.size w w' := by
  have Sr := Lib.hid hs
  have Sx := Lib.hid hs'
  have HF := Lib.hid (show Fits l' from fun x hx => wf_fits (hw' x hx))
  clear hs hs' hw hw'
  by_cases hbig : 1000 < l.length
  · have hb1 : decide ((1000 : Int) < (l.length : Int)) = true := decide_eq_true (by omega)
    go_enter Try.func8, Try.ntmps8
    go_wp2
    go_ret
    exact ⟨rfl, Below.refl _ _⟩
  have hb1 : decide ((1000 : Int) < (l.length : Int)) = false := decide_eq_false (by omega)
  obtain ⟨i0, hi, hz0, hz1, hz2⟩ := info_parts info_int
  obtain ⟨j0, hj, hy0, hy1, hy2⟩ := info_parts info_bool
  go_enter Try.func8, Try.ntmps8
  go_wp2_with fail
  have HT0 := Lib.hid (show TabAt w w.heap.size l.length (tblP l 0) (w.alloc (.cells #[.int .i64 l.length, .slice none 0 0] 28)) from ⟨(Below.refl _ _).alloc (Nat.le_refl _) _, Nat.le_refl _, none, 0, Blk.new _ _ _, World.ownsRow_nil _ _ _ _⟩)
  go_loopg [26] l.length (fun m i wr => ∃ (k : Nat), i = .int .i64 k ∧ k + m = l.length ∧ Hid (TabAt w w.heap.size l.length (tblP l k) wr))
  case atStart => exact ⟨0, rfl, by omega, HT0⟩
  case round =>
    clear HT0
    obtain ⟨k, rfl, hk, HT⟩ := hrel
    by_cases hlt : k < l.length
    · obtain ⟨b, off, rfl, hbw, hc⟩ := Sr.out.cellAt (by omega) HT.out.1
      have c0 := hc k _ (nums_at l k hlt)
      clear hc
      have hsc := tblP_succ l k hlt
      obtain ⟨x0, hx⟩ : ∃ x0, l[k] = x0 := ⟨_, rfl⟩
      rw [hx] at c0 hsc
      have HSC := Lib.hid hsc
      have hk' := Lib.hid hk
      have hpl := tblP_length l k (by omega)
      have hpm : k * l.length ≤ 1000 * 1000 := Nat.mul_le_mul (by omega) (by omega)
      have hpl2 : (tblP l k).length ≤ 1000000 := by omega
      clear hx hk hsc hpl hpm
      have HT1 := Lib.hid (show TabAt w w.heap.size l.length (tblP l k ++ (tblRow l x0).take 0) wr by rw [List.take_zero, List.append_nil]; exact HT.out)
      clear HT
      go_wp2_with fail
      clear c0
      go_loopg [32] l.length (fun m i wr => ∃ (k2 : Nat), i = .int .i64 k2 ∧ k2 + m = l.length ∧ Hid (TabAt w w.heap.size l.length (tblP l k ++ (tblRow l x0).take k2) wr))
      case atStart => exact ⟨0, rfl, by omega, HT1⟩
      case round =>
        obtain ⟨k2, rfl, hk2, HT⟩ := hrel
        by_cases hlt2 : k2 < l.length
        · obtain ⟨b2, off2, hbo, hbw2, hc⟩ := Sr.out.cellAt (by omega) HT.out.1
          obtain ⟨rfl, rfl⟩ : b = b2 ∧ off = off2 := by simpa using hbo
          have c0 := hc k2 _ (nums_at l k2 hlt2)
          have htk := tblRow_take l x0 k2 hlt2
          clear hc hbo
          obtain ⟨y0, hy⟩ : ∃ x0, l[k2] = x0 := ⟨_, rfl⟩
          rw [hy] at c0 htk
          have hk2' := Lib.hid hk2
          clear hy hk2
          have hbl : (tblP l k ++ (tblRow l x0).take k2).length ≤ 1001000 := by
            rw [List.length_append, List.length_take, tblRow_length]; omega
          have hnew : tblP l k ++ (tblRow l x0).take (k2 + 1) = (tblP l k ++ (tblRow l x0).take k2) ++ [decide (x0 < y0)] := by rw [htk, List.append_assoc]
          generalize tblP l k ++ (tblRow l x0).take k2 = bs3 at *
          have HNW := Lib.hid hnew
          obtain ⟨hb3, hpb, A3, c3, hblk, hown⟩ := HT.out
          have d1 : wr.cell? ⟨w.heap.size, 1, none⟩ = some (.slice A3 bs3.length c3) := hblk.cell 1
          have f1 : wr.frozen? ⟨w.heap.size, 1, none⟩ = false := hblk.frozen 1
          have hlp : w.heap.size < wr.heap.size := hblk.lt
          have HB3 := Lib.hid hb3
          have HK3 := Lib.hid hblk
          have HO3 := Lib.hid hown
          clear hnew htk hb3 hpb hblk hown HT HT1
          go_wp2_with (
            at_builtin
            (refine wpList_append_row _ rfl (.tmp 37) (.tmp 41) 22 rfl w.heap.size 4 j0 _ 1 1 Try.underlying22 hj hy0 hy1 hy2 rfl (by decide) (.slice A3 bs3.length c3) bs3.length (bs3.map Value.bool) rfl ?_ (wr.heap.size + 1) (some ⟨wr.heap.size, 0, none⟩) 1 1 [.bool (decide (x0 < y0))] rfl ?_ ?_ ?_ ?_ ?_ ?_)
            · exact HO3.out.alloc _
            · exact sees_new rfl
            · intro u hu; rw [List.mem_singleton.1 hu]; rfl
            · unfold maxLen; omega
            · omega
            · have := HB3.out.size; simp; omega
            intro A4 c4 w4 hown4 hg4 _
            have hblk4 := (HK3.out.alloc _).grown hg4 (fun e => own_blk_ne HO3.out HK3.out (by decide) e.symm)
            have HT4 := Lib.hid (tab_more (b := decide (x0 < y0)) (Nat.le_refl _) hblk4 ((HB3.out.alloc HB3.out.size _).grown hg4 (by have := HB3.out.size; simp; omega) (fun g hgg => (HO3.out.lt g hgg).1)) hown4)
            have g1 : w4.cell? ⟨w.heap.size, 1, none⟩ = some (.slice A3 bs3.length c3) := hblk4.cell 1
            have g2 : w4.frozen? ⟨w.heap.size, 1, none⟩ = false := hblk4.frozen 1
            have g3 : w.heap.size < w4.heap.size := hblk4.lt
            clear hown4 hg4 hblk4)
          go_roundg (l.length - (k2 + 1))
          case measure => have := hk2'.out; omega
          case rel => exact ⟨k2 + 1, by go_num, by omega, Lib.hid (by rw [HNW.out]; exact HT4.out)⟩
        · have HT2 := Lib.hid (show TabAt w w.heap.size l.length (tblP l (k + 1)) wr by
            rw [HSC.out]
            have := HT.out
            rw [List.take_of_length_le (by rw [tblRow_length]; omega)] at this
            exact this)
          go_wp2
          go_roundg (l.length - (k + 1))
          case measure => have := hk'.out; omega
          case rel => exact ⟨k + 1, by go_num, by omega, HT2⟩
    · obtain rfl : k = l.length := by omega
      have HTB := Lib.hid (show TabAt w w.heap.size l.length (tbl l) wr by rw [← tblP_all]; exact HT.out)
      clear HT
      go_wp2_with fail
      go_loopg [11, 48] l'.length (fun m v i wr => ∃ (k : Nat) (A3 : Option Addr) (c3 : Nat), i = .int .i64 k ∧ k + m = l'.length ∧ v = .slice A3 k c3 ∧ Hid (wr.ownsRow w.heap.size 3 1 (.slice A3 k c3) k (((l'.take k).map (rk l)).map (Value.int .i64))) ∧ Hid (TabAt w w.heap.size l.length (tbl l) wr) ∧ Hid (∀ j (h : j < l'.length), j < k → 0 ≤ l'[j] ∧ l'[j] < l.length))
      case atStart => exact ⟨0, none, 0, rfl, by omega, rfl, World.ownsRow_nil _ _ _ _, HTB, Lib.hid (fun j h h2 => by omega)⟩
      case round =>
        obtain ⟨k, A3, c3, rfl, hk, rfl, HO, HT, HR⟩ := hrel
        clear HTB
        by_cases hlt : k < l'.length
        · obtain ⟨b, off, rfl, hbw, hc⟩ := Sx.out.cellAt (by omega) HT.out.1
          have c0 := hc k _ (nums_at l' k hlt)
          clear hc
          obtain ⟨x0, hx⟩ : ∃ x0, l'[k] = x0 := ⟨_, rfl⟩
          rw [hx] at c0
          have HX := Lib.hid hx
          have hk' := Lib.hid hk
          clear hx hk
          have hkl : k + 1 ≤ l'.length := hlt
          by_cases hneg : x0 < 0
          · have t1 : decide (x0 < 0) = true := decide_eq_true hneg
            go_wp2
            go_ret
            exact ⟨rfl, HT.out.1⟩
          have t1 : decide (x0 < 0) = false := decide_eq_false hneg
          by_cases hgt : (l.length : Int) ≤ x0
          · have t2 : decide ((l.length : Int) ≤ x0) = true := decide_eq_true hgt
            go_wp2
            go_ret
            exact ⟨rfl, HT.out.1⟩
          have HR' := Lib.hid (show ∀ j (h : j < l'.length), j < k + 1 → 0 ≤ l'[j] ∧ l'[j] < l.length from fun j h h2 => by
            by_cases e : j = k
            · subst e; rw [HX.out]; omega
            · exact HR.out j h (by omega))
          obtain ⟨m, rfl⟩ : ∃ m : Nat, x0 = (m : Int) := ⟨x0.toNat, by omega⟩
          have hml : m < l.length := by omega
          have t2 : decide (l.length ≤ m) = false := decide_eq_false (by omega)
          have t2' : decide ((l.length : Int) ≤ (m : Int)) = false := decide_eq_false (by omega)
          obtain ⟨b2, off2, rfl, hbw2, hc⟩ := Sr.out.cellAt (by omega) HT.out.1
          have d0 := hc m _ (nums_at l m hml)
          clear hc
          have htk : ((l'.take (k + 1)).map (rk l)).map (Value.int .i64) = ((l'.take k).map (rk l)).map (Value.int .i64) ++ [.int .i64 l[m]] := by
            rw [List.take_succ_eq_append_getElem hlt, List.map_append, List.map_append, HX.out]
            simp [rk, hml]
          have HTK := Lib.hid htk
          clear htk t1 hneg hgt
          have hmz : (m : Int) < (l.length : Int) := by omega
          have t1 : decide ((m : Int) < 0) = false := decide_eq_false (by omega)
          generalize l[m] = z0 at *
          have hbw' : b < wr.heap.size := Nat.lt_of_lt_of_le hbw HT.out.1.size
          have hbw2' : b2 < wr.heap.size := Nat.lt_of_lt_of_le hbw2 HT.out.1.size
          go_wp2_with (
            at_builtin
            (refine wpList_append_row _ rfl (.tmp 59) (.tmp 64) 25 rfl w.heap.size 3 i0 _ 1 8 Try.underlying25 hi hz0 hz1 hz2 rfl (by decide) (.slice A3 k c3) k (((l'.take k).map (rk l)).map (Value.int .i64)) rfl ?_ (wr.heap.size + 1) (some ⟨wr.heap.size, 0, none⟩) 1 1 [.int .i64 z0] rfl ?_ (one_cell _) ?_ ?_ ?_ ?_)
            · exact HO.out.alloc _
            · exact sees_new rfl
            · unfold maxLen; omega
            · omega
            · have := HT.out.1.size; simp; omega
            intro A4 c4 w4 hown4 hg4 _
            have HO4 := Lib.hid hown4
            have HT4 := Lib.hid ((HT.out.alloc _).grown (HO.out.alloc _) hg4)
            clear hown4 hg4)
          go_roundg (l'.length - (k + 1))
          case measure => have := hk'.out; omega
          case rel => exact ⟨k + 1, A4, c4, by go_num, by omega, rfl, Lib.hid (by rw [HTK.out]; exact HO4.out), HT4, HR'⟩
        · obtain rfl : k = l'.length := by omega
          have HRng := Lib.hid (show ∀ v ∈ l', 0 ≤ v ∧ v < l.length from fun v hv => by
            obtain ⟨j, hj, rfl⟩ := List.getElem_of_mem hv
            exact HR.out j hj hj)
          obtain ⟨Ow, hOw⟩ : ∃ x : List Int, l'.map (rk l) = x := ⟨_, rfl⟩
          have HOw := Lib.hid (show wr.ownsRow w.heap.size 3 1 (.slice A3 l'.length c3) l'.length (Ow.map (Value.int .i64)) by have := HO.out; rwa [List.take_length, hOw] at this)
          have NOw : Ow.length = l'.length := by rw [← hOw, List.length_map]
          obtain ⟨Y, hY⟩ : ∃ x : List Int, sortF (bef l.length (tbl l)) 0 l' = x := ⟨_, rfl⟩
          have NY : Y.length = l'.length := by rw [← hY]; exact sortF_length _ _ _
          obtain ⟨Z, hZ⟩ : ∃ x : List Int, sortF ilt 0 Ow = x := ⟨_, rfl⟩
          have NZ : Z.length = l'.length := by rw [← hZ, sortF_length]; exact NOw
          have HE := Lib.hid (show Y.map (rk l) = Z by rw [← hY, ← hZ, ← hOw]; exact ranks_sorted l l' HRng.out)
          have HYR := Lib.hid (show ∀ v ∈ Y, 0 ≤ v ∧ v < l.length from fun v hv => HRng.out v ((sortF_perm 0 _ l').mem_iff.1 (hY ▸ hv)))
          have HY := Lib.hid hY
          have HZ := Lib.hid hZ
          have NYa := Nat.le_of_eq NY
          have NYb := Nat.le_of_eq NY.symm
          have NZa := Nat.le_of_eq NZ
          have NZb := Nat.le_of_eq NZ.symm
          have NOa := Nat.le_of_eq NOw
          have HNO := Lib.hid NOw
          have hlen : ((Y.length : Int) == (l'.length : Int)) = true := by rw [beq_iff_eq]; omega
          have hlB : (tbl l).length ≤ 1000000 := by
            rw [tbl_length]
            have : l.length * l.length ≤ 1000 * 1000 := Nat.mul_le_mul (by omega) (by omega)
            omega
          obtain ⟨hbT, _, At, ct, hkT, hoT⟩ := HT.out
          have p0 : wr.cell? ⟨w.heap.size, 0, none⟩ = some (.int .i64 l.length) := hkT.cell 0
          have p1 : wr.cell? ⟨w.heap.size, 1, none⟩ = some (.slice At (tbl l).length ct) := hkT.cell 1
          have hlp : w.heap.size < wr.heap.size := hkT.lt
          have HOT := Lib.hid hoT
          have HBT := Lib.hid hbT
          clear hkT hoT hbT HO HT HR hOw hY hZ NY NZ NOw
          go_wp2_with fail
          (with_reducible refine (newn_eq (sortByOrder_any l.length At ct (tbl l) A' c' l' wr (by omega) (Sees.of_own HOT.out) (by omega) ((Sx.out.below HBT.out).more HBT.out.size) HF.out (by omega)) HY.out).mono ?_)
          rintro e w5 ⟨A5, c5, rfl, ho5, hb5⟩
          have HB5 := Lib.hid (HBT.out.trans (hb5.mono HBT.out.size))
          have SO := Lib.hid (show Sees w5 w5.heap.size 1 A3 Ow.length (Ow.map (Value.int .i64)) by rw [HNO.out]; exact ((Sees.of_own HOw.out).below hb5).more hb5.size)
          have SY := Lib.hid (Sees.of_own ho5)
          have SR5 := Lib.hid ((Sr.out.below HB5.out).more HB5.out.size)
          clear ho5 hb5 p0 p1 HOT HOw
          go_wp2_with fail
          go_loopg [12, 72] Y.length (fun m v i wr => ∃ (k : Nat) (A6 : Option Addr) (c6 : Nat), i = .int .i64 k ∧ k + m = Y.length ∧ v = .slice A6 k c6 ∧ Hid (wr.ownsRow w5.heap.size 3 1 (.slice A6 k c6) k (((Y.take k).map (rk l)).map (Value.int .i64))) ∧ Hid (Below w5.heap.size w5 wr))
          case atStart => exact ⟨0, none, 0, rfl, by omega, rfl, World.ownsRow_nil _ _ _ _, Below.refl _ _⟩
          case round =>
            obtain ⟨k, A6, c6, rfl, hk, rfl, HO, HB⟩ := hrel
            by_cases hlt : k < Y.length
            · obtain ⟨b, off, rfl, hbw, hc⟩ := SY.out.cellAt (by omega) HB.out
              have c0 := hc k _ (nums_at Y k hlt)
              clear hc
              have hyr := HYR.out _ (List.getElem_mem hlt)
              obtain ⟨x0, hx⟩ : ∃ x0, Y[k] = x0 := ⟨_, rfl⟩
              rw [hx] at c0 hyr
              have HX := Lib.hid hx
              have hk' := Lib.hid hk
              clear hx hk
              have hkl : k + 1 ≤ Y.length := hlt
              obtain ⟨m, rfl⟩ : ∃ m : Nat, x0 = (m : Int) := ⟨x0.toNat, by omega⟩
              have hml : m < l.length := by omega
              have t2 : decide (l.length ≤ m) = false := decide_eq_false (by omega)
              have t2' : decide ((l.length : Int) ≤ (m : Int)) = false := decide_eq_false (by omega)
              have t1 : decide ((m : Int) < 0) = false := decide_eq_false (by omega)
              obtain ⟨b2, off2, rfl, hbw2, hc⟩ := SR5.out.cellAt (by omega) HB.out
              have d0 := hc m _ (nums_at l m hml)
              clear hc
              have htk : ((Y.take (k + 1)).map (rk l)).map (Value.int .i64) = ((Y.take k).map (rk l)).map (Value.int .i64) ++ [.int .i64 l[m]] := by
                rw [List.take_succ_eq_append_getElem hlt, List.map_append, List.map_append, HX.out]
                simp [rk, hml]
              have HTK := Lib.hid htk
              clear htk hyr
              have hmz : (m : Int) < (l.length : Int) := by omega
              generalize l[m] = z0 at *
              have hbw' : b < wr.heap.size := Nat.lt_of_lt_of_le hbw HB.out.size
              have hbw2' : b2 < wr.heap.size := Nat.lt_of_lt_of_le hbw2 HB.out.size
              go_wp2_with (
                at_builtin
                (refine wpList_append_row _ rfl (.tmp 83) (.tmp 88) 25 rfl w5.heap.size 3 i0 _ 1 8 Try.underlying25 hi hz0 hz1 hz2 rfl (by decide) (.slice A6 k c6) k (((Y.take k).map (rk l)).map (Value.int .i64)) rfl ?_ (wr.heap.size + 1) (some ⟨wr.heap.size, 0, none⟩) 1 1 [.int .i64 z0] rfl ?_ (one_cell _) ?_ ?_ ?_ ?_)
                · exact HO.out.alloc _
                · exact sees_new rfl
                · unfold maxLen; omega
                · omega
                · have := HB.out.size; simp; omega
                intro A7 c7 w7 hown7 hg7 _
                have HO7 := Lib.hid hown7
                have HB7 := Lib.hid ((HB.out.alloc HB.out.size _).grown hg7 (by have := HB.out.size; simp; omega) (fun g hgg => (HO.out.lt g hgg).1))
                clear hown7 hg7)
              go_roundg (Y.length - (k + 1))
              case measure => have := hk'.out; omega
              case rel => exact ⟨k + 1, A7, c7, by go_num, by omega, rfl, Lib.hid (by rw [HTK.out]; exact HO7.out), HB7⟩
            · obtain rfl : k = Y.length := by omega
              obtain ⟨G, hG⟩ : ∃ x : List Int, Y.map (rk l) = x := ⟨_, rfl⟩
              have NG : G.length = Y.length := by rw [← hG, List.length_map]
              have HGZ := Lib.hid (show G = Z by rw [← hG]; exact HE.out)
              have SG := Lib.hid (show Sees wr wr.heap.size 1 A6 G.length (G.map (Value.int .i64)) by have := HO.out; rw [List.take_length, hG] at this; rw [NG]; exact Sees.of_own this)
              have HNG := Lib.hid NG
              have NGa := Nat.le_of_eq NG
              have SOw := Lib.hid ((SO.out.below HB.out).more HB.out.size)
              have HB6 := Lib.hid (HB5.out.trans (HB.out.mono HB5.out.size))
              have hc1 := newn_eq (sortInts_any A3 c3 Ow wr SOw.out (by omega)) HZ.out
              rw [HNO.out] at hc1
              have HC1 := Lib.hid hc1
              clear HO hG NG hc1
              go_wp2_with fail
              refine HC1.out.mono ?_
              rintro e w8 ⟨A8, c8, rfl, ho8, hb8⟩
              have HB8 := Lib.hid (HB6.out.trans (hb8.mono HB6.out.size))
              have hc2 := calls_val (v' := .bool true) (quiet_below (sameInts_any A6 A8 c6 c8 G Z w8 _ _ ((SG.out.below hb8).more hb8.size) (Sees.of_own ho8) (by omega) (by omega))) (by rw [decide_eq_true HGZ.out])
              rw [HNG.out] at hc2
              have HC2 := Lib.hid hc2
              clear ho8 hb8 hc2
              go_wp2_with fail
              refine HC2.out.mono ?_
              rintro e w9 ⟨rfl, hb9⟩
              have HB9 := Lib.hid (HB8.out.trans (hb9.mono HB8.out.size))
              clear hb9
              go_wp2
              go_ret
              exact ⟨rfl, HB9.out⟩

set_option maxRecDepth 100000 in
theorem fnOrderRanks_contract (H : Type) (enc : TypeId × Value → H) (W : World) (base : Nat) (args : Array Value) (ds gs : List (DataW H)) (before : List MemPlace)
    (hval : ∀ (j : Nat) t v, Try.f8.params[j]? = some t → args[j]? = some v → Value.okWide Try.prog W .any base t v)
    (hW : DataW.Whole enc Try.prog Try.f8.params.toList Rows.fnOrderRanksSpec.vars false W args.toList ds gs before)
    (hsz : (DataW.weightsEach Try.prog (Try.f8.params.toList ++ Rows.fnOrderRanksSpec.plain.varTypes Try.prog) (ds ++ gs)).all (· ≤ reachBytes) = true) :
    Calls Try.prog 8 args W fun e W' => ∃ v, e = .returned v ∧ Rows.fnOrderRanksSpec.post enc Try.prog Try.f8 false true false false W args v W' := by
  have hW' := hW
  obtain ⟨p, q, hA0, hV, rfl, hfz, hnd⟩ := hW
  have hA : DataW.TrodAll enc Try.prog W 0 (fun _ => true) true Try.f8.params.toList args.toList ds p := hA0
  rw [Try.params8] at hA hval hsz
  obtain ⟨v0, vs0, d0, ds0, p0, q0, hargs, rfl, rfl, h0, r0⟩ := trodAll_cons hA
  obtain ⟨v1, vs1, d1, ds1, p1, q1, rfl, rfl, rfl, h1, r1⟩ := trodAll_cons r0
  obtain ⟨rfl, rfl, rfl⟩ := trodAll_nil r1
  obtain rfl : args = #[v0, v1] := by cases args; simp_all
  obtain ⟨rfl, rfl⟩ := trodVars_none hV
  have k0 := h0
  have lt0 : ∀ x ∈ p0, x.block < W.heap.size := by obtain ⟨m, hm⟩ := k0; exact DataW.trod_lt m _ _ _ hm
  have k1 := h1
  have lt1 : ∀ x ∈ p1, x.block < W.heap.size := by obtain ⟨m, hm⟩ := k1; exact DataW.trod_lt m _ _ _ hm
  obtain ⟨a0, len0, c0, rfl⟩ := okWide_slice Try.underlying25 (hval 0 25 v0 rfl rfl)
  obtain ⟨l0, rfl, hs0, hw0, hd0⟩ := open_nums Try.underlying25 Try.underlying3 (by kernel_rfl) h0
  have hn0 := nums_reach hsz (j := 0) rfl rfl Try.underlying25 (show Try.prog.bytesOf 3 = 8 by kernel_rfl) hd0
  obtain ⟨a1, len1, c1, rfl⟩ := okWide_slice Try.underlying25 (hval 1 25 v1 rfl rfl)
  obtain ⟨l1, rfl, hs1, hw1, hd1⟩ := open_nums Try.underlying25 Try.underlying3 (by kernel_rfl) h1
  have hn1 := nums_reach hsz (j := 1) rfl rfl Try.underlying25 (show Try.prog.bytesOf 3 = 8 by kernel_rfl) hd1
  clear hA0 hsz
  refine (fnOrderRanks_any a0 c0 l0 a1 c1 l1 W hs0 hw0 hn0 hs1 hw1 hn1).mono fun e W' ⟨he, bel⟩ => ?_
  subst he
  exact ⟨_, rfl, _, _, _, [], _, [], hW', trodAll_mk1 (shut_bool Try.underlying4 _), (trodAll_cons_mk (Below.trod Try.laidOut (by kernel_rfl) (of_decide_eq_true (by kernel_rfl)) k0 bel lt0) (trodAll_cons_mk (Below.trod Try.laidOut (by kernel_rfl) (of_decide_eq_true (by kernel_rfl)) k1 bel lt1) trodAll_mk0)), rfl, bel.frame _, fun h => by cases h⟩

set_option maxRecDepth 100000 in
theorem fnOrderRanks_lifted (os : Os) (started : os.Started) (H : Type) (enc : TypeId × Value → H) :
    ReturnsInHanded {} Try.checked os 8 .any (Rows.fnOrderRanksSpec.pre6 enc Try.prog Try.f8 Rows.fnOrderRanksRow.domain false) (Rows.fnOrderRanksSpec.post enc Try.prog Try.f8 false true false false) := by
  refine returnsInHanded_of_change_sized (C := Try.checked) Try.own started (by kernel_rfl) Try.func8
    (ChangeSpec.witness6 (enc := enc) (C := Try.checked) false ⟨#[], #[.slice none 0 0, .slice none 0 0], []⟩ 8 (by kernel_rfl) (by kernel_rfl) (by kernel_rfl) (by kernel_rfl)) ?_
  intro W base args ds gs before hval hW _ hsz _
  exact fnOrderRanks_contract H enc W base args ds gs before hval hW hsz

theorem fnOrderRanks_holds : Rows.FnOrderRanksSaid :=
  OpenClaim.holds_of_wide 8 Try.f8 rfl rfl rfl rfl rfl rfl rfl ⟨rfl, rfl, rfl, rfl, rfl⟩ rfl rfl rfl rfl rfl (by kernel_rfl) Try.func8 (by kernel_rfl)
    (of_decide_eq_true (by kernel_rfl)) (by unfold Func.isWrapper; first | (rw [if_pos (by decide +kernel)]; kernel_rfl) | (rw [if_neg (by decide +kernel)]; exact ⟨rfl, rfl⟩))
    (fun os started H enc _ => fnOrderRanks_lifted os started H enc)
#print axioms fnOrderRanks_holds
end Go.Proofs.Ytgijkfkfifjokaa
