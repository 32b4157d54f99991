/- The laws' own functions on items: sameItems: two lists are equal. -/
import Derived.Test.YtpglibneflefgaaLawFns
namespace Go.Proofs.Ytpglibneflefgaa
set_option linter.unusedVariables false
open Go.RowKit

theorem list_ne_of_get {α : Type} {a b : List α} {k : Nat} (ha : k < a.length) (hb : k < b.length) (h : ¬ a[k] = b[k]) : ¬ a = b := by
  intro e; subst e; exact h rfl
theorem list_eq_of_get {α : Type} {a b : List α} (hl : a.length = b.length) (h : ∀ j (ha : j < a.length) (hb : j < b.length), a[j] = b[j]) : a = b :=
  List.ext_getElem hl h

set_option maxHeartbeats 800000 in
theorem sameItems_any (A1 A2 : Option Addr) (c1 c2 : Nat) (la lb : List (Int × Int)) (w : World) (B1 B2 : Nat) (hsa : Sees w B1 2 A1 la.length (ics la)) (hsb : Sees w B2 2 A2 lb.length (ics lb))
    (hna : la.length < 4611686018427387904) (hnb : lb.length < 4611686018427387904) :
    Calls Try.prog 24 #[.slice A1 la.length c1, .slice A2 lb.length c2] w fun e w' => e = .returned (.bool (decide (la = lb))) ∧ ∃ q, w' = w.drewN q := by
  have HSA := Lib.hid hsa
  have HSB := Lib.hid hsb
  clear hsa hsb
  by_cases hl : la.length = lb.length
  · have hlz : ((la.length : Int) != (lb.length : Int)) = false := by simp [hl]
    have HL := Lib.hid hl
    clear hl
    go_enter Try.func24, Try.ntmps24
    go_wp2
    go_loopg [13] la.length (fun m i wr => ∃ (k q : Nat), i = .int .i64 k ∧ k + m = la.length ∧ Hid (∀ j (ha : j < la.length) (hb : j < lb.length), j < k → la[j] = lb[j]) ∧ wr = w.drewN q)
    case atStart => exact ⟨0, 0, rfl, by omega, fun j _ _ h => by omega, rfl⟩
    case round =>
      obtain ⟨k, q, rfl, hk, HO, rfl⟩ := hrel
      by_cases hlt : k < la.length
      · have hltb : k < lb.length := by have := HL.out; omega
        obtain ⟨b, off, rfl, hbw, hc⟩ := HSA.out.2 (by omega)
        have c0 := hc (k * 2) _ (ics_key la k hlt)
        have c1' := hc (k * 2 + 1) _ (ics_tag la k hlt)
        clear hc
        rw [← Nat.add_assoc] at c1'
        obtain ⟨b2, off2, rfl, hbw2, hc⟩ := HSB.out.2 (by omega)
        have d0 := hc (k * 2) _ (ics_key lb k hltb)
        have d1 := hc (k * 2 + 1) _ (ics_tag lb k hltb)
        clear hc
        rw [← Nat.add_assoc] at d1
        have hkl : k + 1 ≤ la.length := hlt
        have hklb : k + 1 ≤ lb.length := hltb
        have hk' := Lib.hid hk
        clear hk
        obtain ⟨⟨x0, x1⟩, hx⟩ : ∃ x, la[k] = x := ⟨_, rfl⟩
        obtain ⟨⟨y0, y1⟩, hy⟩ : ∃ x, lb[k] = x := ⟨_, rfl⟩
        rw [hx] at c0 c1'
        rw [hy] at d0 d1
        have HX := Lib.hid hx
        have HY := Lib.hid hy
        clear hx hy
        dsimp only at c0 c1' d0 d1
        by_cases e : (x0, x1) = (y0, y1)
        · have e2 : x0 = y0 ∧ x1 = y1 := by simpa using e
          obtain ⟨rfl, rfl⟩ := e2
          have HO' := Lib.hid (show ∀ j (ha : j < la.length) (hb : j < lb.length), j < k + 1 → la[j] = lb[j] from fun j ha hb h2 => by
            by_cases e : j = k
            · subst e; rw [HX.out, HY.out]
            · exact HO.out j ha hb (by omega))
          clear HO e
          go_wp2_with fail
          go_quiet (fail)
          go_wp2
          go_roundg (la.length - (k + 1))
          case measure => have := hk'.out; omega
          case rel => exact ⟨k + 1, _, by go_num, by omega, HO', rfl⟩
        · have HF := Lib.hid (decide_eq_false (list_ne_of_get hlt hltb (by rw [HX.out, HY.out]; exact e)))
          by_cases e0 : x0 = y0
          · subst e0
            have e1 : (x1 == y1) = false := by rw [beq_eq_false_iff_ne]; intro h; exact e (by rw [h])
            clear e
            go_wp2_with fail
            go_quiet (fail)
            go_wp2
            go_ret
            rw [HF.out]
            exact ⟨rfl, _, World.drewN_drewN _ _ _⟩
          · have e1 : (x0 == y0) = false := beq_eq_false_iff_ne.2 e0
            clear e e0
            go_wp2_with fail
            go_quiet (fail)
            go_wp2
            go_ret
            rw [HF.out]
            exact ⟨rfl, _, World.drewN_drewN _ _ _⟩
      · have HT := Lib.hid (decide_eq_true (list_eq_of_get HL.out fun j ha hb => HO.out j ha hb (by omega)))
        go_wp2
        go_ret
        rw [HT.out]
        exact ⟨rfl, _, rfl⟩
  · have hlz : ((la.length : Int) != (lb.length : Int)) = true := by simp; omega
    have HL := Lib.hid (decide_eq_false (p := la = lb) (fun e => hl (by rw [e])))
    clear hl
    go_enter Try.func24, Try.ntmps24
    go_wp2
    go_ret
    rw [HL.out]
    exact ⟨rfl, 0, rfl⟩
end Go.Proofs.Ytpglibneflefgaa
