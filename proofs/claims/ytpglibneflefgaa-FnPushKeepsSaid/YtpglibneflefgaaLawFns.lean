/- The laws' own functions on items: toItems, heapOrdered, countItem, sameElements. -/
import Derived.Test.YtpglibneflefgaaItemFns
import Derived.Deep.LoopGhost
namespace Go.Proofs.Ytpglibneflefgaa
set_option linter.unusedVariables false
open Go.RowKit

theorem ics_snoc (l : List (Int × Int)) (k : Nat) (h : k < l.length) : ics (l.take (k + 1)) = ics (l.take k) ++ [.int .i64 l[k].1, .int .i64 l[k].2] := by
  rw [List.take_succ_eq_append_getElem h, ics_append]; rfl

set_option maxHeartbeats 400000 in
theorem toItems_any (A : Option Addr) (c : Nat) (l : List (Int × Int)) (w : World) (hs : Sees w w.heap.size 2 A l.length (ics l)) (hn : l.length * 16 ≤ 140737488355328) :
    Calls Try.prog 17 #[.slice A l.length c] w (NewItems w l) := by
  obtain ⟨i0, hi, hz0, hz1, hz2⟩ := info_parts info_item
  have HS := Lib.hid hs
  clear hs
  go_enter Try.func17, Try.ntmps17
  go_wp2
  go_loopg [3, 8] l.length (fun m v i wr => ∃ (k : Nat) (A' : Option Addr) (c' : Nat), i = .int .i64 k ∧ k + m = l.length ∧ v = .slice A' k c' ∧ Hid (wr.ownsRow w.heap.size 36 2 (.slice A' k c') k (ics (l.take k))) ∧ Hid (Below w.heap.size w wr))
  case atStart => exact ⟨0, none, 0, rfl, by omega, rfl, World.ownsRow_nil _ _ _ _, Below.refl _ _⟩
  case round =>
    obtain ⟨k, A', c', rfl, hk, rfl, HO, HB⟩ := hrel
    by_cases hlt : k < l.length
    · have hsn := Lib.hid (ics_snoc l k hlt)
      obtain ⟨b, off, rfl, hbw, hc⟩ := HS.out.cellAt (by omega) HB.out
      have c0 := hc (k * 2) _ (ics_key l k hlt)
      have c1 := hc (k * 2 + 1) _ (ics_tag l k hlt)
      clear hc
      rw [← Nat.add_assoc] at c1
      generalize l[k].1 = xk at *
      generalize l[k].2 = xt at *
      have hbw' : b < wr.heap.size := Nat.lt_of_lt_of_le hbw HB.out.size
      have hkl : k + 1 ≤ l.length := hlt
      have hk' := Lib.hid hk
      clear hk
      go_wp2_with (at_builtin
                   (refine wpList_append_row _ rfl (.tmp 12) (.tmp 18) 26 rfl w.heap.size 36 i0 _ 2 16 Try.underlying26 hi hz0 hz1 hz2 rfl (by decide) (.slice A' k c') k (ics (l.take k)) rfl ?_ (wr.heap.size + 2) (some ⟨wr.heap.size + 1, 0, none⟩) 1 1 [.int .i64 xk, .int .i64 xt] rfl ?_ (two_cells _ _) ?_ ?_ ?_ ?_)
                   · exact (HO.out.alloc _).alloc _
                   · exact sees_new2 rfl
                   · unfold maxLen; omega
                   · omega
                   · have := HB.out.size; simp; omega
                   intro A2 c2 w2 hown hg _
                   have HO2 := Lib.hid hown
                   have HB2 := Lib.hid (((HB.out.alloc HB.out.size _).alloc (by have := HB.out.size; simp; omega) _).grown hg (by have := HB.out.size; simp; omega) (fun g hgg => (HO.out.lt g hgg).1))
                   clear hown hg)
      go_roundg (l.length - (k + 1))
      case measure => have := hk'.out; omega
      case rel => exact ⟨k + 1, A2, c2, by go_num, by omega, rfl, by rw [hsn.out]; exact HO2, HB2⟩
    · obtain rfl : k = l.length := by omega
      go_wp2
      go_ret
      rw [List.take_length] at HO
      exact ⟨A', c', rfl, HO.out, HB.out⟩

/-- No item has a lesser key than the one above it. -/
def HeapOrd (l : List (Int × Int)) : Prop := ∀ j (h : j < l.length), 1 ≤ j → (l[(j - 1) / 2]'(by omega)).1 ≤ l[j].1
def hoB (l : List (Int × Int)) : Bool := (List.range l.length).all fun j => j == 0 || decide ((l.getD ((j - 1) / 2) (0, 0)).1 ≤ (l.getD j (0, 0)).1)
theorem hoB_iff (l : List (Int × Int)) : hoB l = true ↔ HeapOrd l := by
  unfold hoB HeapOrd
  rw [List.all_eq_true]
  constructor
  · intro H j hj h1
    have := H j (List.mem_range.2 hj)
    simp [hj, show (j - 1) / 2 < l.length by omega, show ¬ j = 0 by omega] at this
    exact this
  · intro H j hj
    have hj := List.mem_range.1 hj
    by_cases h0 : j = 0
    · simp [h0]
    · have := H j hj (by omega)
      simp [hj, show (j - 1) / 2 < l.length by omega]
      exact Or.inr this
theorem hoB_false {l : List (Int × Int)} (h : ¬ HeapOrd l) : hoB l = false := by
  rw [← Bool.not_eq_true, hoB_iff]; exact h

set_option maxHeartbeats 400000 in
theorem heapOrdered_any (A : Option Addr) (c : Nat) (l : List (Int × Int)) (w : World) (B : Nat) (hs : Sees w B 2 A l.length (ics l)) (hn : l.length < 4611686018427387904) :
    Calls Try.prog 19 #[.slice A l.length c] w fun e w' => e = .returned (.bool (hoB l)) ∧ ∃ q, w' = w.drewN q := by
  have HS := Lib.hid hs
  clear hs
  go_enter Try.func19, Try.ntmps19
  go_wp2
  go_loopg [3] (l.length + 1) (fun m i wr => ∃ (k q : Nat), i = .int .i64 k ∧ k + m = l.length + 2 ∧ 1 ≤ k ∧ Hid (∀ j (h : j < l.length), 1 ≤ j → j < k → (l[(j - 1) / 2]'(by omega)).1 ≤ l[j].1) ∧ wr = w.drewN q)
  case atStart => exact ⟨1, 0, rfl, by omega, by omega, fun j _ h1 h2 => by omega, rfl⟩
  case round =>
    obtain ⟨k, q, rfl, hk, hk1, HO, rfl⟩ := hrel
    by_cases hlt : k < l.length
    · obtain ⟨b, off, rfl, hbw, hc⟩ := HS.out.2 (by omega)
      have hp : (k - 1) / 2 < l.length := by omega
      have c0 := hc (k * 2) _ (ics_key l k hlt)
      have c1 := hc ((k - 1) / 2 * 2) _ (ics_key l _ hp)
      clear hc
      have hkl : k + 1 ≤ l.length := hlt
      by_cases hx : l[k].1 < l[(k - 1) / 2].1
      · have HB := Lib.hid (hoB_false (l := l) fun H => absurd (H k hlt hk1) (by omega))
        generalize l[k].1 = x0 at *
        generalize l[(k - 1) / 2].1 = x1 at *
        go_wp2_with fail
        go_quiet (fail)
        go_wp2
        go_ret
        rw [HB.out]
        exact ⟨rfl, _, World.drewN_drewN _ _ _⟩
      · have HO' := Lib.hid (show ∀ j (h : j < l.length), 1 ≤ j → j < k + 1 → (l[(j - 1) / 2]'(by omega)).1 ≤ l[j].1 from fun j h h1 h2 => by
          by_cases e : j = k
          · subst e; omega
          · exact HO.out j h h1 (by omega))
        clear HO
        generalize l[k].1 = x0 at *
        generalize l[(k - 1) / 2].1 = x1 at *
        have hx' : decide (x0 < x1) = false := decide_eq_false hx
        go_wp2_with fail
        go_quiet (fail)
        go_wp2
        go_roundg (l.length + 2 - (k + 1))
        case measure => omega
        case rel => exact ⟨k + 1, _, by go_num, by omega, by omega, HO', rfl⟩
    · have HB := Lib.hid ((hoB_iff l).2 fun j h h1 => HO.out j h h1 (by omega))
      go_wp2
      go_ret
      rw [HB.out]
      exact ⟨rfl, _, rfl⟩

def cntI (l : List (Int × Int)) (x : Int × Int) : Nat := l.count x
theorem cntI_le (l : List (Int × Int)) (x : Int × Int) : cntI l x ≤ l.length := List.count_le_length
theorem cntI_yes (l : List (Int × Int)) (k : Nat) (h : k < l.length) (y : Int × Int) (e : l[k] = y) : cntI (l.take (k + 1)) y = cntI (l.take k) y + 1 := by
  unfold cntI
  rw [List.take_succ_eq_append_getElem h, List.count_append, e]
  simp
theorem cntI_no (l : List (Int × Int)) (k : Nat) (h : k < l.length) (y : Int × Int) (e : ¬ l[k] = y) : cntI (l.take (k + 1)) y = cntI (l.take k) y := by
  unfold cntI
  rw [List.take_succ_eq_append_getElem h, List.count_append]
  simp [e]


end Go.Proofs.Ytpglibneflefgaa
