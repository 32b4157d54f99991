/- The exact laws' own functions on numbers: toIntS, eqIntS, markIntS, heldIntS. -/
import Derived.Test.YtjnlolidjbbddaaNums
import Derived.Laws.OwnMore
import Derived.Maps.AppendAt
namespace Go.Proofs.Ytjnlolidjbbddaa
set_option linter.unusedVariables false
open Go.RowKit

theorem made_nums (n : Nat) : (madeCells (Value.int .i64 0).cells (n * 1)).toList = (List.replicate n (0 : Int)).map (Value.int .i64) := by
  rw [Nat.mul_one, show (Value.int .i64 0).cells = #[Value.int .i64 0] from rfl, toList_madeCells_one, List.map_replicate]
theorem own_step {w w' : World} {base : Nat} {e : TypeId} {size : Nat} {v : Value} {n : Nat} {xs : List Value} (h : w.ownsRow base e size v n xs) (hb : Below w.heap.size w w') : w'.ownsRow base e size v n xs :=
  own_kept h (Kept.of_below (K := (· < w.heap.size)) hb fun _ h => h) fun k hk => (h.lt k hk).2
theorem list_of_parts {cur l : List Int} (hl : cur.length = l.length) (h : ∀ j (h1 : j < cur.length) (h2 : j < l.length), cur[j] = l[j]) : cur = l := List.ext_getElem hl h
def marks (k : Int) (n : Nat) : List Int := (List.range n).map fun (j : Nat) => k + (j : Int)
@[simp] theorem marks_length (k : Int) (n : Nat) : (marks k n).length = n := by simp [marks]
theorem marks_get (k : Int) (n j : Nat) (h : j < (marks k n).length) : (marks k n)[j] = k + (j : Int) := by simp [marks]

set_option maxHeartbeats 800000 in
theorem toIntS_any (A : Option Addr) (c : Nat) (l : List Int) (w : World) (hs : Sees w w.heap.size 1 A l.length (l.map (Value.int .i64))) (hn : l.length ≤ 1048576) :
    Calls Try.prog 6 #[.slice A l.length c] w (NewNums w l) := by
  obtain ⟨i0, hi, hz0, hz1, hz2⟩ := info_parts info_int
  have HS := Lib.hid hs
  clear hs
  obtain ⟨w1, hmk, hown, hgr⟩ := run_makeSlice_full (P := Try.prog) (w := w) w.heap.size 22 3 i0 (.int .i64 0) 1 Try.underlying22 hi hz0 hz1 .i64 .i64 l.length (by omega) (by rw [hz2]; omega) (by unfold maxLen; omega) (Nat.le_refl _)
  rw [made_nums] at hown
  have HO := Lib.hid hown
  have HB := Lib.hid ((Below.refl w.heap.size w).grown hgr (Nat.le_refl _) (by simp))
  clear hown hgr
  go_enter Try.func6, Try.ntmps6
  go_wp2
  go_loopg [4] l.length (fun m i wr => ∃ (k : Nat) (cur : List Int), i = .int .i64 k ∧ k + m = l.length ∧ Hid (cur.length = l.length) ∧ Hid (∀ j (h1 : j < cur.length) (h2 : j < l.length), j < k → cur[j] = l[j]) ∧ Hid (wr.ownsRow w.heap.size 3 1 (.slice (some ⟨w.heap.size, 0, none⟩) l.length l.length) l.length (cur.map (Value.int .i64))) ∧ Hid (Below w.heap.size w wr))
  case atStart => exact ⟨0, List.replicate l.length 0, rfl, by omega, List.length_replicate, fun j _ _ h => by omega, HO, HB⟩
  case round =>
    obtain ⟨k, cur, rfl, hk, HCL, HC, HO, HB⟩ := hrel
    by_cases hlt : k < l.length
    · obtain ⟨b, off, rfl, hbw, hc⟩ := HS.out.cellAt (by omega) HB.out
      have c0 := hc k _ (nums_at l k hlt)
      clear hc
      have hkc : k < cur.length := by rw [HCL.out]; exact hlt
      have d0 : wr.cell? ⟨w.heap.size, k, none⟩ = some (.int .i64 cur[k]) := by rw [HO.out.cellAt k (by omega)]; exact nums_at cur k hkc
      have hf := HO.out.frozenAt k
      have hb1 : w.heap.size < wr.heap.size := (HO.out.lt _ rfl).2
      have hbw' : b < wr.heap.size := Nat.lt_of_lt_of_le hbw HB.out.size
      have HC' := Lib.hid (show ∀ j (h1 : j < (cur.set k l[k]).length) (h2 : j < l.length), j < k + 1 → (cur.set k l[k])[j] = l[j] from fun j h1 h2 h3 => by
        rw [List.getElem_set]
        split
        · next e => subst e; rfl
        · exact HC.out j (by simpa using h1) h2 (by omega))
      have hst := HO.out.stored k (.int .i64 l[k])
      rw [← List.map_set] at hst
      have HO' := Lib.hid hst.1
      have HB' := Lib.hid (HB.out.grown hst.2 HB.out.size (by simp))
      have HCL' := Lib.hid (show (cur.set k l[k]).length = l.length by rw [List.length_set]; exact HCL.out)
      generalize cur.set k l[k] = cur' at *
      clear hst
      generalize l[k] = xk at *
      generalize cur[k] = yk at *
      have hk' := Lib.hid hk
      clear hk
      go_wp2
      go_roundg (l.length - (k + 1))
      case measure => have := hk'.out; omega
      case rel => exact ⟨k + 1, cur', by go_num, by omega, HCL', HC', HO', HB'⟩
    · have HE := Lib.hid (list_of_parts HCL.out fun j h1 h2 => HC.out j h1 h2 (by omega))
      go_wp2
      go_ret
      exact ⟨_, _, rfl, by rw [← HE.out]; rw [HCL.out]; exact HO.out, HB.out⟩
set_option maxHeartbeats 800000 in
theorem eqIntS_any (A1 A2 : Option Addr) (c1 c2 : Nat) (la lb : List Int) (w : World) (B1 B2 : Nat) (hsa : Sees w B1 1 A1 la.length (la.map (Value.int .i64))) (hsb : Sees w B2 1 A2 lb.length (lb.map (Value.int .i64)))
    (hna : la.length < 4611686018427387904) (hnb : lb.length < 4611686018427387904) :
    Calls Try.prog 8 #[.slice A1 la.length c1, .slice A2 lb.length c2] w fun e w' => e = .returned (.bool (decide (la = lb))) ∧ ∃ q, w' = w.drewN q := by
  have HSA := Lib.hid hsa
  have HSB := Lib.hid hsb
  clear hsa hsb
  by_cases hl : la.length = lb.length
  · have hlz : ((la.length : Int) != (lb.length : Int)) = false := by simp [hl]
    have HL := Lib.hid hl
    clear hl
    go_enter Try.func8, Try.ntmps8
    go_wp2
    go_loopg [5] la.length (fun m i wr => ∃ (k q : Nat), i = .int .i64 k ∧ k + m = la.length ∧ Hid (∀ j (ha : j < la.length) (hb : j < lb.length), j < k → la[j] = lb[j]) ∧ wr = w.drewN q)
    case atStart => exact ⟨0, 0, rfl, by omega, fun j _ _ h => by omega, rfl⟩
    case round =>
      obtain ⟨k, q, rfl, hk, HO, rfl⟩ := hrel
      by_cases hlt : k < la.length
      · have hltb : k < lb.length := by have := HL.out; omega
        obtain ⟨b, off, rfl, hbw, hc⟩ := HSA.out.2 (by omega)
        have c0 := hc k _ (nums_at la k hlt)
        clear hc
        obtain ⟨b2, off2, rfl, hbw2, hc⟩ := HSB.out.2 (by omega)
        have d0 := hc k _ (nums_at lb k hltb)
        clear hc
        have hkl : k + 1 ≤ la.length := hlt
        have hklb : k + 1 ≤ lb.length := hltb
        have hk' := Lib.hid hk
        clear hk
        obtain ⟨x0, hx⟩ : ∃ x, la[k] = x := ⟨_, rfl⟩
        obtain ⟨y0, hy⟩ : ∃ x, lb[k] = x := ⟨_, rfl⟩
        rw [hx] at c0
        rw [hy] at d0
        have HX := Lib.hid hx
        have HY := Lib.hid hy
        clear hx hy
        by_cases e : x0 = y0
        · subst e
          have HO' := Lib.hid (show ∀ j (ha : j < la.length) (hb : j < lb.length), j < k + 1 → la[j] = lb[j] from fun j ha hb h2 => by
            by_cases e : j = k
            · subst e; rw [HX.out, HY.out]
            · exact HO.out j ha hb (by omega))
          clear HO
          have e1 : (x0 != x0) = false := by simp
          go_wp2_with fail
          go_quiet (fail)
          go_wp2
          go_roundg (la.length - (k + 1))
          case measure => have := hk'.out; omega
          case rel => exact ⟨k + 1, _, by go_num, by omega, HO', rfl⟩
        · have HF := Lib.hid (decide_eq_false (ints_ne_of_get hlt hltb (by rw [HX.out, HY.out]; exact e)))
          have e1 : (x0 != y0) = true := bne_iff_ne.2 e
          clear e
          go_wp2_with fail
          go_quiet (fail)
          go_wp2
          go_ret
          rw [HF.out]
          exact ⟨rfl, _, World.drewN_drewN _ _ _⟩
      · have HT := Lib.hid (decide_eq_true (List.ext_getElem HL.out fun j ha hb => HO.out j ha hb (by omega)))
        go_wp2
        go_ret
        rw [HT.out]
        exact ⟨rfl, _, rfl⟩
  · have hlz : ((la.length : Int) != (lb.length : Int)) = true := by rw [bne_iff_ne]; omega
    have HL := Lib.hid (decide_eq_false (p := la = lb) (fun e => hl (by rw [e])))
    clear hl
    go_enter Try.func8, Try.ntmps8
    go_wp2
    go_ret
    rw [HL.out]
    exact ⟨rfl, 0, rfl⟩

set_option maxHeartbeats 800000 in
theorem heldIntS_any (A : Option Addr) (c : Nat) (l : List Int) (k0 : Int) (w : World) (B : Nat) (hs : Sees w B 1 A l.length (l.map (Value.int .i64))) (hl : l = marks k0 l.length) (hn : l.length ≤ 1048576) (h0 : 0 ≤ k0) (h1 : k0 ≤ 1048576) :
    Calls Try.prog 10 #[.slice A l.length c, .int .i64 k0] w fun e w' => e = .returned (.int .i64 (k0 + (l.length : Int))) ∧ ∃ q, w' = w.drewN q := by
  have HS := Lib.hid hs
  have HL := Lib.hid (show ∀ j (h : j < l.length), l[j] = k0 + (j : Int) from fun j h => by
    have := marks_get k0 l.length j (by simpa using h)
    rw [← this]; congr 1)
  clear hs hl
  go_enter Try.func10, Try.ntmps10
  go_wp2
  go_loopg [1, 5] l.length (fun m v i wr => ∃ (k q : Nat), i = .int .i64 k ∧ v = .int .i64 (k0 + (k : Int)) ∧ k + m = l.length ∧ wr = w.drewN q)
  case atStart => exact ⟨0, 0, rfl, by simp, by omega, rfl⟩
  case round =>
    obtain ⟨k, q, rfl, rfl, hk, rfl⟩ := hrel
    by_cases hlt : k < l.length
    · obtain ⟨b, off, rfl, hbw, hc⟩ := HS.out.2 (by omega)
      have c0 := hc k _ (nums_at l k hlt)
      rw [HL.out k hlt] at c0
      clear hc
      have hne : ((k0 + (k : Int)) != (k0 + (k : Int))) = false := by simp
      have hk' := Lib.hid hk
      clear hk
      go_wp2
      go_roundg (l.length - (k + 1))
      case measure => have := hk'.out; omega
      case rel => exact ⟨k + 1, _, by go_num, by go_num, by omega, rfl⟩
    · obtain rfl : k = l.length := by omega
      go_wp2
      go_ret
      exact ⟨rfl, _, rfl⟩

set_option maxHeartbeats 800000 in
theorem markIntS_any (A : Option Addr) (c : Nat) (l : List Int) (k0 : Int) (w : World) (base : Nat) (ho : w.ownsRow base 3 1 (.slice A l.length c) l.length (l.map (Value.int .i64))) (hn : l.length ≤ 1048576) (h0 : 0 ≤ k0) (h1 : k0 ≤ 1048576) :
    Calls Try.prog 9 #[.slice A l.length c, .int .i64 k0] w fun e w' => e = .returned (.int .i64 (k0 + (l.length : Int))) ∧ w'.ownsRow base 3 1 (.slice A l.length c) l.length ((marks k0 l.length).map (Value.int .i64)) ∧ w.grownBy w' (Value.slice A l.length c).ownBlock := by
  have HO := Lib.hid ho
  clear ho
  go_enter Try.func9, Try.ntmps9
  go_wp2
  go_loopg [1, 5] l.length (fun m v i wr => ∃ (k : Nat) (cur : List Int), i = .int .i64 k ∧ v = .int .i64 (k0 + (k : Int)) ∧ k + m = l.length ∧ Hid (cur.length = l.length) ∧ Hid (∀ j (h1 : j < cur.length), j < k → cur[j] = k0 + (j : Int)) ∧ Hid (wr.ownsRow base 3 1 (.slice A l.length c) l.length (cur.map (Value.int .i64))) ∧ Hid (w.grownBy wr (Value.slice A l.length c).ownBlock))
  case atStart => exact ⟨0, l, rfl, by simp, by omega, rfl, fun j _ h => by omega, HO, World.grownBy.refl _ _⟩
  case round =>
    obtain ⟨k, cur, rfl, rfl, hk, HCL, HC, HO, HG⟩ := hrel
    by_cases hlt : k < l.length
    · obtain ⟨g, cap, hv, _⟩ := HO.out.form (by omega)
      obtain ⟨rfl, rfl⟩ : A = some ⟨g, 0, none⟩ ∧ c = cap := by simpa using hv
      have hkc : k < cur.length := by rw [HCL.out]; exact hlt
      have d0 : wr.cell? ⟨g, k, none⟩ = some (.int .i64 cur[k]) := by rw [HO.out.cellAt k (by omega)]; exact nums_at cur k hkc
      have hf := HO.out.frozenAt k
      have hb1 : g < wr.heap.size := (HO.out.lt _ rfl).2
      have HC' := Lib.hid (show ∀ j (h1 : j < (cur.set k (k0 + (k : Int))).length), j < k + 1 → (cur.set k (k0 + (k : Int)))[j] = k0 + (j : Int) from fun j h1 h3 => by
        rw [List.getElem_set]
        split
        · next e => subst e; rfl
        · exact HC.out j (by simpa using h1) (by omega))
      have hst := HO.out.stored k (.int .i64 (k0 + (k : Int)))
      rw [← List.map_set] at hst
      have HO' := Lib.hid hst.1
      have HG' := Lib.hid (HG.out.trans hst.2)
      have HCL' := Lib.hid (show (cur.set k (k0 + (k : Int))).length = l.length by rw [List.length_set]; exact HCL.out)
      generalize cur.set k (k0 + (k : Int)) = cur' at *
      clear hst hv
      generalize cur[k] = yk at *
      have hk' := Lib.hid hk
      clear hk
      go_wp2
      go_roundg (l.length - (k + 1))
      case measure => have := hk'.out; omega
      case rel => exact ⟨k + 1, cur', by go_num, by go_num, by omega, HCL', HC', HO', HG'⟩
    · obtain rfl : k = l.length := by omega
      have HE := Lib.hid (show cur = marks k0 l.length from List.ext_getElem (by rw [HCL.out]; simp) fun j h1 h2 => by rw [HC.out j h1 (by rw [← HCL.out]; exact h1)]; exact (marks_get k0 l.length j h2).symm)
      go_wp2
      go_ret
      exact ⟨rfl, by rw [← HE.out]; exact HO.out, HG.out⟩
end Go.Proofs.Ytjnlolidjbbddaa
