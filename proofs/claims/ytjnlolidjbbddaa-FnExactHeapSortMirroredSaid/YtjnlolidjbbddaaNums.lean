/- Numbers in memory; the laws' own functions on numbers: sameInts, countInt, sameNumbers. -/
import Derived.Test.YtjnlolidjbbddaaRow
import Derived.Test.YtjnlolidjbbddaaPops
import Derived.Deep.QuietTactic
import Derived.BigQuiet
import Derived.Deep.RegionWith
namespace Go.Proofs.Ytjnlolidjbbddaa
set_option linter.unusedVariables false
open Go.RowKit

theorem info_int : (Try.prog.info? 3).map (fun i => (i.zero, i.size, i.bytes)) = some (some (.int .i64 0), 1, 8) := by kernel_rfl
theorem one_cell (k : Int) : ∀ u ∈ [Value.int .i64 k], u.oneCell' = true := by
  intro u hu
  rw [List.mem_singleton.1 hu]; rfl
abbrev nums (l : List Int) : List Value := l.map (Value.int .i64)
theorem nums_at (l : List Int) (i : Nat) (h : i < l.length) : (l.map (Value.int .i64))[i]? = some (.int .i64 l[i]) := by simp [h]
theorem nums_cells (l : List Int) : ∀ u ∈ l.map (Value.int .i64), u.oneCell' = true := by
  intro u hu
  obtain ⟨x, _, rfl⟩ := List.mem_map.1 hu
  rfl
/-- A new slice of numbers is handed back; nothing that was there has turned. -/
def NewNums (w : World) (l : List Int) (e : Ending) (w' : World) : Prop :=
  ∃ A c, e = .returned (.slice A l.length c) ∧ w'.ownsRow w.heap.size 3 1 (.slice A l.length c) l.length (l.map (Value.int .i64)) ∧ Below w.heap.size w w'
theorem newn_eq {P : Program} {f : FuncId} {args : Array Value} {w : World} {l l' : List Int} (h : Calls P f args w (NewNums w l)) (e : l = l') : Calls P f args w (NewNums w l') := e ▸ h
theorem nums_snoc (l : List Int) (k : Nat) (h : k < l.length) : (l.take (k + 1)).map (Value.int .i64) = (l.take k).map (Value.int .i64) ++ [.int .i64 l[k]] := by
  rw [List.take_succ_eq_append_getElem h, List.map_append]; rfl

theorem ints_ne_of_get {α : Type} {a b : List α} {k : Nat} (ha : k < a.length) (hb : k < b.length) (h : ¬ a[k] = b[k]) : ¬ a = b := by
  intro e; subst e; exact h rfl

set_option maxHeartbeats 800000 in
theorem sameInts_any (A1 A2 : Option Addr) (c1 c2 : Nat) (la lb : List Int) (w : World) (B1 B2 : Nat) (hsa : Sees w B1 1 A1 la.length (la.map (Value.int .i64))) (hsb : Sees w B2 1 A2 lb.length (lb.map (Value.int .i64)))
    (hna : la.length < 4611686018427387904) (hnb : lb.length < 4611686018427387904) :
    Calls Try.prog 12 #[.slice A1 la.length c1, .slice A2 lb.length c2] w fun e w' => e = .returned (.bool (decide (la = lb))) ∧ ∃ q, w' = w.drewN q := by
  have HSA := Lib.hid hsa
  have HSB := Lib.hid hsb
  clear hsa hsb
  by_cases hl : la.length = lb.length
  · have hlz : ((la.length : Int) != (lb.length : Int)) = false := by simp [hl]
    have HL := Lib.hid hl
    clear hl
    go_enter Try.func12, Try.ntmps12
    go_wp2
    go_loopg [13] la.length (fun m i wr => ∃ (k q : Nat), i = .int .i64 k ∧ k + m = la.length ∧ Hid (∀ j (ha : j < la.length) (hb : j < lb.length), j < k → la[j] = lb[j]) ∧ wr = w.drewN q)
    case atStart => exact ⟨0, 0, rfl, by omega, fun j _ _ h => by omega, rfl⟩
    case round =>
      obtain ⟨k, q, rfl, hk, HO, rfl⟩ := hrel
      by_cases hlt : k < la.length
      · have hltb : k < lb.length := by have := HL.out; omega
        obtain ⟨b, off, rfl, hbw, hc⟩ := HSA.out.2 (by omega)
        have c0 := hc k _ (nums_at la k hlt)
        clear hc
        obtain ⟨b2, off2, rfl, hbw2, hc⟩ := HSB.out.2 (by omega)
        have d0 := hc k _ (nums_at lb k hltb)
        clear hc
        have hkl : k + 1 ≤ la.length := hlt
        have hklb : k + 1 ≤ lb.length := hltb
        have hk' := Lib.hid hk
        clear hk
        obtain ⟨x0, hx⟩ : ∃ x, la[k] = x := ⟨_, rfl⟩
        obtain ⟨y0, hy⟩ : ∃ x, lb[k] = x := ⟨_, rfl⟩
        rw [hx] at c0
        rw [hy] at d0
        have HX := Lib.hid hx
        have HY := Lib.hid hy
        clear hx hy
        by_cases e : x0 = y0
        · subst e
          have HO' := Lib.hid (show ∀ j (ha : j < la.length) (hb : j < lb.length), j < k + 1 → la[j] = lb[j] from fun j ha hb h2 => by
            by_cases e : j = k
            · subst e; rw [HX.out, HY.out]
            · exact HO.out j ha hb (by omega))
          clear HO
          have e1 : (x0 != x0) = false := by simp
          go_wp2_with fail
          go_quiet (fail)
          go_wp2
          go_roundg (la.length - (k + 1))
          case measure => have := hk'.out; omega
          case rel => exact ⟨k + 1, _, by go_num, by omega, HO', rfl⟩
        · have HF := Lib.hid (decide_eq_false (ints_ne_of_get hlt hltb (by rw [HX.out, HY.out]; exact e)))
          have e1 : (x0 != y0) = true := bne_iff_ne.2 e
          clear e
          go_wp2_with fail
          go_quiet (fail)
          go_wp2
          go_ret
          rw [HF.out]
          exact ⟨rfl, _, World.drewN_drewN _ _ _⟩
      · have HT := Lib.hid (decide_eq_true (List.ext_getElem HL.out fun j ha hb => HO.out j ha hb (by omega)))
        go_wp2
        go_ret
        rw [HT.out]
        exact ⟨rfl, _, rfl⟩
  · have hlz : ((la.length : Int) != (lb.length : Int)) = true := by rw [bne_iff_ne]; omega
    have HL := Lib.hid (decide_eq_false (p := la = lb) (fun e => hl (by rw [e])))
    clear hl
    go_enter Try.func12, Try.ntmps12
    go_wp2
    go_ret
    rw [HL.out]
    exact ⟨rfl, 0, rfl⟩

def cntN (l : List Int) (x : Int) : Nat := l.count x
theorem cntN_le (l : List Int) (x : Int) : cntN l x ≤ l.length := List.count_le_length
theorem cntN_yes (l : List Int) (k : Nat) (h : k < l.length) (y : Int) (e : l[k] = y) : cntN (l.take (k + 1)) y = cntN (l.take k) y + 1 := by
  unfold cntN
  rw [List.take_succ_eq_append_getElem h, List.count_append, e]
  simp
theorem cntN_no (l : List Int) (k : Nat) (h : k < l.length) (y : Int) (e : ¬ l[k] = y) : cntN (l.take (k + 1)) y = cntN (l.take k) y := by
  unfold cntN
  rw [List.take_succ_eq_append_getElem h, List.count_append]
  simp [e]


def sameN (a b : List Int) : Bool := a.length == b.length && a.all fun x => cntN a x == cntN b x
theorem sameN_perm {a b : List Int} (h : a.Perm b) : sameN a b = true := by
  unfold sameN cntN
  rw [Bool.and_eq_true, List.all_eq_true]
  exact ⟨by simp [h.length_eq], fun x _ => by simp [h.count_eq x]⟩
theorem sameN_ne {a b : List Int} (h : ¬ a.length = b.length) : sameN a b = false := by simp [sameN, h]
theorem sameN_part {a b : List Int} (k : Nat) (hk : k < a.length) (h : ¬ cntN a a[k] = cntN b a[k]) : sameN a b = false := by
  unfold sameN
  rw [Bool.and_eq_false_iff]
  refine Or.inr ?_
  rw [List.all_eq_false]
  exact ⟨a[k], List.getElem_mem hk, by simp [h]⟩
theorem sameN_all {a b : List Int} (hl : a.length = b.length) (h : ∀ j (hj : j < a.length), cntN a a[j] = cntN b a[j]) : sameN a b = true := by
  unfold sameN
  rw [Bool.and_eq_true, List.all_eq_true]
  refine ⟨by simp [hl], fun x hx => ?_⟩
  obtain ⟨j, hj, rfl⟩ := List.getElem_of_mem hx
  simp [h j hj]

theorem perm_of_sameN {a b : List Int} (h : sameN a b = true) : a.Perm b := by
  unfold sameN cntN at h
  rw [Bool.and_eq_true, List.all_eq_true] at h
  exact perm_of_counts a b (by simpa using h.1) fun x hx => by simpa using h.2 x hx

end Go.Proofs.Ytjnlolidjbbddaa
