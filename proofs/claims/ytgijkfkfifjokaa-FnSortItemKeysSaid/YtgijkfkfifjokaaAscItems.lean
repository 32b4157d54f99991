/- The laws' own functions on items: ascendingKeys. -/
import Derived.Test.YtgijkfkfifjokaaItemLaws
namespace Go.Proofs.Ytgijkfkfifjokaa
set_option linter.unusedVariables false
open Go.RowKit

/-- No item has a lesser key than the one ahead of it. -/
def KeysUp (l : List (Int × Int)) : Prop := ∀ j (h : j < l.length), 1 ≤ j → (l[j - 1]'(by omega)).1 ≤ l[j].1
def upB (l : List (Int × Int)) : Bool := (List.range l.length).all fun j => j == 0 || decide ((l.getD (j - 1) (0, 0)).1 ≤ (l.getD j (0, 0)).1)
theorem upB_iff (l : List (Int × Int)) : upB l = true ↔ KeysUp l := by
  unfold upB KeysUp
  rw [List.all_eq_true]
  constructor
  · intro H j hj h1
    have := H j (List.mem_range.2 hj)
    simp [hj, show j - 1 < l.length by omega, show ¬ j = 0 by omega] at this
    exact this
  · intro H j hj
    have hj := List.mem_range.1 hj
    by_cases h0 : j = 0
    · simp [h0]
    · have := H j hj (by omega)
      simp [hj, show j - 1 < l.length by omega]
      exact Or.inr this
theorem upB_false {l : List (Int × Int)} (h : ¬ KeysUp l) : upB l = false := by
  rw [← Bool.not_eq_true, upB_iff]; exact h

theorem up_of_pairwise {l : List (Int × Int)} (h : l.Pairwise fun a b => klt b a = false) : upB l = true := by
  rw [upB_iff]
  intro j hj h1
  have := List.pairwise_iff_getElem.1 h (j - 1) j (by omega) hj (by omega)
  simp [klt] at this; omega
theorem pops_up (l : List (Int × Int)) (h : HP klt (0, 0) l.length 0 l) : upB (popsF klt (0, 0) l.length l) = true :=
  up_of_pairwise (popsF_sorted (0, 0) (klt_weak fun _ => True) _ l rfl (fun _ _ => trivial) h)

set_option maxHeartbeats 400000 in
theorem ascendingKeys_any (A : Option Addr) (c : Nat) (l : List (Int × Int)) (w : World) (B : Nat) (hs : Sees w B 2 A l.length (ics l)) (hn : l.length < 4611686018427387904) :
    Calls Try.prog 25 #[.slice A l.length c] w fun e w' => e = .returned (.bool (upB l)) ∧ ∃ q, w' = w.drewN q := by
  have HS := Lib.hid hs
  clear hs
  go_enter Try.func25, Try.ntmps25
  go_wp2
  go_loopg [3] (l.length + 1) (fun m i wr => ∃ (k q : Nat), i = .int .i64 k ∧ k + m = l.length + 2 ∧ 1 ≤ k ∧ Hid (∀ j (h : j < l.length), 1 ≤ j → j < k → (l[j - 1]'(by omega)).1 ≤ l[j].1) ∧ wr = w.drewN q)
  case atStart => exact ⟨1, 0, rfl, by omega, by omega, fun j _ h1 h2 => by omega, rfl⟩
  case round =>
    obtain ⟨k, q, rfl, hk, hk1, HO, rfl⟩ := hrel
    by_cases hlt : k < l.length
    · obtain ⟨b, off, rfl, hbw, hc⟩ := HS.out.2 (by omega)
      have hp : k - 1 < l.length := by omega
      have c0 := hc (k * 2) _ (ics_key l k hlt)
      have c1 := hc ((k - 1) * 2) _ (ics_key l _ hp)
      clear hc
      have hkl : k + 1 ≤ l.length := hlt
      by_cases hx : l[k].1 < l[k - 1].1
      · have HB := Lib.hid (upB_false (l := l) fun H => absurd (H k hlt hk1) (by omega))
        generalize l[k].1 = x0 at *
        generalize l[k - 1].1 = x1 at *
        go_wp2_with fail
        go_quiet (fail)
        go_wp2
        go_ret
        rw [HB.out]
        exact ⟨rfl, _, World.drewN_drewN _ _ _⟩
      · have HO' := Lib.hid (show ∀ j (h : j < l.length), 1 ≤ j → j < k + 1 → (l[j - 1]'(by omega)).1 ≤ l[j].1 from fun j h h1 h2 => by
          by_cases e : j = k
          · subst e; omega
          · exact HO.out j h h1 (by omega))
        clear HO
        generalize l[k].1 = x0 at *
        generalize l[k - 1].1 = x1 at *
        have hx' : decide (x0 < x1) = false := decide_eq_false hx
        go_wp2_with fail
        go_quiet (fail)
        go_wp2
        go_roundg (l.length + 2 - (k + 1))
        case measure => omega
        case rel => exact ⟨k + 1, _, by go_num, by omega, by omega, HO', rfl⟩
    · have HB := Lib.hid ((upB_iff l).2 fun j h h1 => HO.out j h h1 (by omega))
      go_wp2
      go_ret
      rw [HB.out]
      exact ⟨rfl, _, rfl⟩
end Go.Proofs.Ytgijkfkfifjokaa
