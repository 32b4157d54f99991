/- heap.down, up, Push, Pop as XDown and XHeap have them, with the fuel of the tree's height: so few calls are made. -/
import Derived.Test.YtpglibneflefgaaHeap
namespace Go.Proofs.Ytpglibneflefgaa
set_option linter.unusedVariables false
open Go.RowKit

theorem fuel_pos {n i k : Nat} (h : n < (i + 1) * 2 ^ (k + 1)) (h0 : ¬ n ≤ 2 * i + 1) : 1 ≤ k := by
  rcases Nat.eq_zero_or_pos k with rfl | hk
  · simp at h; omega
  · exact hk
theorem fuel_step {n i k c : Nat} (h : n < (i + 1) * 2 ^ (k + 1 + 1)) (hc : 2 * i + 1 ≤ c) : n < (c + 1) * 2 ^ (k + 1) := by
  have h1 : (i + 1) * 2 ^ (k + 1 + 1) = (2 * i + 2) * 2 ^ (k + 1) := by rw [Nat.pow_succ 2 (k + 1), ← Nat.mul_assoc, Nat.mul_right_comm]; congr 1; omega
  have h2 : (2 * i + 2) * 2 ^ (k + 1) ≤ (c + 1) * 2 ^ (k + 1) := Nat.mul_le_mul_right _ (by omega)
  omega
theorem up_fuel_pos {j k : Nat} (h : j + 1 ≤ 2 ^ k) (h0 : ¬ j = 0) : 1 ≤ k := by
  rcases Nat.eq_zero_or_pos k with rfl | hk
  · simp at h; omega
  · exact hk
theorem up_fuel_step {j k : Nat} (h : j + 1 ≤ 2 ^ (k + 1)) : (j - 1) / 2 + 1 ≤ 2 ^ k := by
  rw [Nat.pow_succ] at h
  have : 1 ≤ 2 ^ k := Nat.one_le_two_pow
  omega

/-! more fuel changes nothing -/
section
variable {σ : Type} (M : HM σ)
theorem down_enough (n : Nat) : ∀ (f i : Nat) (s : σ), n < (i + 1) * 2 ^ (f + 1) → ∀ f', f ≤ f' → downM M n f' i s = downM M n f i s
  | 0, i, s, h, f', _ => by
    have h0 : n ≤ 2 * i + 1 := by simp at h; omega
    rw [downM_stop M h0, downM_stop M h0]
  | f + 1, i, s, h, f', hf => by
    obtain ⟨g, rfl⟩ : ∃ g, f' = g + 1 := ⟨f' - 1, by omega⟩
    by_cases h0 : n ≤ 2 * i + 1
    · rw [downM_stop M h0, downM_stop M h0]
    · cases hl : M.less (pickM M n i s).2 (pickM M n i s).1 i with
      | true => rw [downM_go M h0 hl, downM_go M h0 hl]; exact down_enough n f _ _ (fuel_step h (pick_bounds n i s h0).1) g (by omega)
      | false => rw [downM_halt M h0 hl, downM_halt M h0 hl]
theorem up_enough : ∀ (f j : Nat) (s : σ), j + 1 ≤ 2 ^ f → ∀ f', f ≤ f' → upM M f' j s = upM M f j s
  | 0, j, s, h, f', _ => by
    have h0 : j = 0 := by simp at h; omega
    subst h0
    rw [upM_top M rfl, upM_top M rfl]
  | f + 1, j, s, h, f', hf => by
    obtain ⟨g, rfl⟩ : ∃ g, f' = g + 1 := ⟨f' - 1, by omega⟩
    by_cases h0 : (j - 1) / 2 = j
    · rw [upM_top M h0, upM_top M h0]
    · cases hl : M.less s j ((j - 1) / 2) with
      | true => rw [upM_go M h0 hl, upM_go M h0 hl]; exact up_enough f _ _ (up_fuel_step h) g (by omega)
      | false => rw [upM_halt M h0 hl, upM_halt M h0 hl]
theorem down_same (n f f' i : Nat) (s : σ) (h : n < (i + 1) * 2 ^ (f + 1)) (h' : n < (i + 1) * 2 ^ (f' + 1)) : downM M n f i s = downM M n f' i s := by
  rw [← down_enough M n f i s h (max f f') (Nat.le_max_left _ _), ← down_enough M n f' i s h' (max f f') (Nat.le_max_right _ _)]
theorem up_same (f f' j : Nat) (s : σ) (h : j + 1 ≤ 2 ^ f) (h' : j + 1 ≤ 2 ^ f') : upM M f j s = upM M f' j s := by
  rw [← up_enough M f j s h (max f f') (Nat.le_max_left _ _), ← up_enough M f' j s h' (max f f') (Nat.le_max_right _ _)]
theorem lt_two_pow' (n : Nat) : n + 1 ≤ 2 ^ n := Nat.lt_two_pow_self
theorem down_full (n i : Nat) : n < (i + 1) * 2 ^ (n + 1) := by
  have h1 : n + 1 ≤ 2 ^ n := Nat.lt_two_pow_self
  have h2 : 2 ^ n ≤ 2 ^ (n + 1) := Nat.pow_le_pow_right (by omega) (by omega)
  have h3 : 1 * 2 ^ (n + 1) ≤ (i + 1) * 2 ^ (n + 1) := Nat.mul_le_mul_right _ (by omega)
  omega
end

section
variable {T : TypeId} {rv : Value} {σ : Type} {M : HM σ} {R : σ → World → Prop} {C : Nat}

set_option maxHeartbeats 400000 in
theorem down_log (I : Impl Try.prog T rv M R C) (s0 : σ) (w : World) (i0 n f0 : Nat) (hf0 : n < (i0 + 1) * 2 ^ (f0 + 1)) (hR0 : R s0 w) (hn : n ≤ M.len s0) (hi0 : i0 ≤ M.len s0) (hlen : M.len s0 < 4611686018427387904) (hcost : M.cost s0 + 3 * f0 ≤ C) :
    Calls Try.prog 36 #[.iface T rv, .int .i64 i0, .int .i64 n] w fun e w' =>
      e = .returned (.bool (decide (i0 < (downM M n f0 i0 s0).1))) ∧ R (downM M n f0 i0 s0).2 w' := by
  have F := I.fair
  have HF0 := Lib.hid hf0
  clear hf0
  go_enter Try.func36, Try.ntmps36
  go_wp2
  go_loopg [7] f0 (fun k s7 wr => ∃ (i : Nat) (s : σ), s7 = .int .i64 i ∧ R s wr ∧ Hid (M.len s = M.len s0) ∧ i ≤ M.len s0 ∧ M.cost s + 3 * k ≤ C ∧ Hid (n < (i + 1) * 2 ^ (k + 1)) ∧ Hid (downM M n k i s = downM M n f0 i0 s0))
  case atStart => exact ⟨i0, s0, rfl, hR0, rfl, hi0, hcost, HF0, rfl⟩
  case round =>
    obtain ⟨i, s, rfl, hR, HL, hi, hc, HK, HD⟩ := hrel
    by_cases h0 : n ≤ 2 * i + 1
    · have h0z : (n : Int) ≤ 2 * (i : Int) + 1 := by omega
      go_wp2
      go_ret
      rw [← HD.out, downM_stop M h0]
      exact ⟨rfl, hR⟩
    · have h0z : ¬ ((n : Int) ≤ 2 * (i : Int) + 1) := by omega
      have hgk := fuel_pos HK.out h0
      obtain ⟨k', rfl⟩ : ∃ k', gk = k' + 1 := ⟨gk - 1, by omega⟩
      by_cases h1 : 2 * i + 2 < n
      · have h1z : 2 * (i : Int) + 1 + 1 < (n : Int) := by omega
        have hp := pickM_both M (s := s) h1
        cases hl1 : M.less s (2 * i + 2) (2 * i + 1) with
        | true =>
          rw [hl1, if_pos rfl] at hp
          cases hl2 : M.less (M.asked s (2 * i + 2) (2 * i + 1)) (2 * i + 2) i with
          | true =>
            have hgo := downM_go M (f := k') (s := s) h0 (by rw [hp]; exact hl2)
            rw [hp] at hgo
            have HGO := Lib.hid hgo
            have HL1 := Lib.hid hl1
            have HL2 := Lib.hid hl2
            clear hgo hp hl2 hl1
            go_wp2_with (first
              | ((with_reducible refine wpList_meth2 ?_ _ "Less" (.tmp 30) (.tmp 31) _ rfl T rv ?_ (.int .i64 (2 * (i : Int) + 1 + 1)) (.int .i64 (2 * (i : Int) + 1)) ?_ ?_ (.bool true) (R (M.asked s (2 * i + 2) (2 * i + 1))) (I.lessI s _ (2 * i + 2) (2 * i + 1) _ _ (by omega) (by omega) hR ?_ ?_ ?_ _ HL1.out) ?_)
                 · rfl
                 · rfl
                 · rfl
                 · rfl
                 · rw [HL.out]; omega
                 · rw [HL.out]; omega
                 · omega
                 intro w1 hR1)
              | ((with_reducible refine wpList_meth2 ?_ _ "Less" (.tmp 36) (.tmp 37) _ rfl T rv ?_ (.int .i64 (2 * (i : Int) + 1 + 1)) (.int .i64 ((i : Int))) ?_ ?_ (.bool true) (R (M.asked (M.asked s (2 * i + 2) (2 * i + 1)) (2 * i + 2) i)) (I.lessI (M.asked s (2 * i + 2) (2 * i + 1)) _ (2 * i + 2) i _ _ (by omega) (by omega) hR1 ?_ ?_ ?_ _ HL2.out) ?_)
                 · rfl
                 · rfl
                 · rfl
                 · rfl
                 · rw [F.len_asked, HL.out]; omega
                 · rw [F.len_asked, HL.out]; omega
                 · (have := F.cost_asked s (2 * i + 2) (2 * i + 1); omega)
                 intro w2 hR2)
              | ((with_reducible refine wpList_meth2 ?_ _ "Swap" (.tmp 41) (.tmp 42) _ rfl T rv ?_ (.int .i64 ((i : Int))) (.int .i64 (2 * (i : Int) + 1 + 1)) ?_ ?_ (.tuple #[]) (R (M.swap (M.asked (M.asked s (2 * i + 2) (2 * i + 1)) (2 * i + 2) i) i (2 * i + 2))) (I.swapI (M.asked (M.asked s (2 * i + 2) (2 * i + 1)) (2 * i + 2) i) _ i (2 * i + 2) _ _ (by omega) (by omega) hR2 ?_ ?_ ?_) ?_)
                 · rfl
                 · rfl
                 · rfl
                 · rfl
                 · rw [F.len_asked, F.len_asked, HL.out]; omega
                 · rw [F.len_asked, F.len_asked, HL.out]; omega
                 · (have := F.cost_asked s (2 * i + 2) (2 * i + 1); have := F.cost_asked (M.asked s (2 * i + 2) (2 * i + 1)) (2 * i + 2) i; omega)
                 intro w3 hR3))
            go_roundg k'
            case measure => omega
            case rel => exact ⟨2 * i + 2, _, by go_num, hR3, Lib.hid (by rw [F.len_swap, F.len_asked, F.len_asked, HL.out]), by omega, (by have := F.cost_asked s (2 * i + 2) (2 * i + 1); have := F.cost_asked (M.asked s (2 * i + 2) (2 * i + 1)) (2 * i + 2) i; have := F.cost_swap (M.asked (M.asked s (2 * i + 2) (2 * i + 1)) (2 * i + 2) i) i (2 * i + 2); omega), Lib.hid (fuel_step HK.out (by omega)), Lib.hid (by rw [← HD.out, HGO.out])⟩
          | false =>
            have hgo := downM_halt M (f := k') (s := s) h0 (by rw [hp]; exact hl2)
            rw [hp] at hgo
            have HGO := Lib.hid hgo
            have HL1 := Lib.hid hl1
            have HL2 := Lib.hid hl2
            clear hgo hp hl2 hl1
            go_wp2_with (first
              | ((with_reducible refine wpList_meth2 ?_ _ "Less" (.tmp 30) (.tmp 31) _ rfl T rv ?_ (.int .i64 (2 * (i : Int) + 1 + 1)) (.int .i64 (2 * (i : Int) + 1)) ?_ ?_ (.bool true) (R (M.asked s (2 * i + 2) (2 * i + 1))) (I.lessI s _ (2 * i + 2) (2 * i + 1) _ _ (by omega) (by omega) hR ?_ ?_ ?_ _ HL1.out) ?_)
                 · rfl
                 · rfl
                 · rfl
                 · rfl
                 · rw [HL.out]; omega
                 · rw [HL.out]; omega
                 · omega
                 intro w1 hR1)
              | ((with_reducible refine wpList_meth2 ?_ _ "Less" (.tmp 36) (.tmp 37) _ rfl T rv ?_ (.int .i64 (2 * (i : Int) + 1 + 1)) (.int .i64 ((i : Int))) ?_ ?_ (.bool false) (R (M.asked (M.asked s (2 * i + 2) (2 * i + 1)) (2 * i + 2) i)) (I.lessI (M.asked s (2 * i + 2) (2 * i + 1)) _ (2 * i + 2) i _ _ (by omega) (by omega) hR1 ?_ ?_ ?_ _ HL2.out) ?_)
                 · rfl
                 · rfl
                 · rfl
                 · rfl
                 · rw [F.len_asked, HL.out]; omega
                 · rw [F.len_asked, HL.out]; omega
                 · (have := F.cost_asked s (2 * i + 2) (2 * i + 1); omega)
                 intro w2 hR2))
            go_ret
            rw [← HD.out, HGO.out]
            exact ⟨rfl, hR2⟩
        | false =>
          rw [hl1, if_neg (by simp)] at hp
          cases hl2 : M.less (M.asked s (2 * i + 2) (2 * i + 1)) (2 * i + 1) i with
          | true =>
            have hgo := downM_go M (f := k') (s := s) h0 (by rw [hp]; exact hl2)
            rw [hp] at hgo
            have HGO := Lib.hid hgo
            have HL1 := Lib.hid hl1
            have HL2 := Lib.hid hl2
            clear hgo hp hl2 hl1
            go_wp2_with (first
              | ((with_reducible refine wpList_meth2 ?_ _ "Less" (.tmp 30) (.tmp 31) _ rfl T rv ?_ (.int .i64 (2 * (i : Int) + 1 + 1)) (.int .i64 (2 * (i : Int) + 1)) ?_ ?_ (.bool false) (R (M.asked s (2 * i + 2) (2 * i + 1))) (I.lessI s _ (2 * i + 2) (2 * i + 1) _ _ (by omega) (by omega) hR ?_ ?_ ?_ _ HL1.out) ?_)
                 · rfl
                 · rfl
                 · rfl
                 · rfl
                 · rw [HL.out]; omega
                 · rw [HL.out]; omega
                 · omega
                 intro w1 hR1)
              | ((with_reducible refine wpList_meth2 ?_ _ "Less" (.tmp 36) (.tmp 37) _ rfl T rv ?_ (.int .i64 (2 * (i : Int) + 1)) (.int .i64 ((i : Int))) ?_ ?_ (.bool true) (R (M.asked (M.asked s (2 * i + 2) (2 * i + 1)) (2 * i + 1) i)) (I.lessI (M.asked s (2 * i + 2) (2 * i + 1)) _ (2 * i + 1) i _ _ (by omega) (by omega) hR1 ?_ ?_ ?_ _ HL2.out) ?_)
                 · rfl
                 · rfl
                 · rfl
                 · rfl
                 · rw [F.len_asked, HL.out]; omega
                 · rw [F.len_asked, HL.out]; omega
                 · (have := F.cost_asked s (2 * i + 2) (2 * i + 1); omega)
                 intro w2 hR2)
              | ((with_reducible refine wpList_meth2 ?_ _ "Swap" (.tmp 41) (.tmp 42) _ rfl T rv ?_ (.int .i64 ((i : Int))) (.int .i64 (2 * (i : Int) + 1)) ?_ ?_ (.tuple #[]) (R (M.swap (M.asked (M.asked s (2 * i + 2) (2 * i + 1)) (2 * i + 1) i) i (2 * i + 1))) (I.swapI (M.asked (M.asked s (2 * i + 2) (2 * i + 1)) (2 * i + 1) i) _ i (2 * i + 1) _ _ (by omega) (by omega) hR2 ?_ ?_ ?_) ?_)
                 · rfl
                 · rfl
                 · rfl
                 · rfl
                 · rw [F.len_asked, F.len_asked, HL.out]; omega
                 · rw [F.len_asked, F.len_asked, HL.out]; omega
                 · (have := F.cost_asked s (2 * i + 2) (2 * i + 1); have := F.cost_asked (M.asked s (2 * i + 2) (2 * i + 1)) (2 * i + 1) i; omega)
                 intro w3 hR3))
            go_roundg k'
            case measure => omega
            case rel => exact ⟨2 * i + 1, _, by go_num, hR3, Lib.hid (by rw [F.len_swap, F.len_asked, F.len_asked, HL.out]), by omega, (by have := F.cost_asked s (2 * i + 2) (2 * i + 1); have := F.cost_asked (M.asked s (2 * i + 2) (2 * i + 1)) (2 * i + 1) i; have := F.cost_swap (M.asked (M.asked s (2 * i + 2) (2 * i + 1)) (2 * i + 1) i) i (2 * i + 1); omega), Lib.hid (fuel_step HK.out (by omega)), Lib.hid (by rw [← HD.out, HGO.out])⟩
          | false =>
            have hgo := downM_halt M (f := k') (s := s) h0 (by rw [hp]; exact hl2)
            rw [hp] at hgo
            have HGO := Lib.hid hgo
            have HL1 := Lib.hid hl1
            have HL2 := Lib.hid hl2
            clear hgo hp hl2 hl1
            go_wp2_with (first
              | ((with_reducible refine wpList_meth2 ?_ _ "Less" (.tmp 30) (.tmp 31) _ rfl T rv ?_ (.int .i64 (2 * (i : Int) + 1 + 1)) (.int .i64 (2 * (i : Int) + 1)) ?_ ?_ (.bool false) (R (M.asked s (2 * i + 2) (2 * i + 1))) (I.lessI s _ (2 * i + 2) (2 * i + 1) _ _ (by omega) (by omega) hR ?_ ?_ ?_ _ HL1.out) ?_)
                 · rfl
                 · rfl
                 · rfl
                 · rfl
                 · rw [HL.out]; omega
                 · rw [HL.out]; omega
                 · omega
                 intro w1 hR1)
              | ((with_reducible refine wpList_meth2 ?_ _ "Less" (.tmp 36) (.tmp 37) _ rfl T rv ?_ (.int .i64 (2 * (i : Int) + 1)) (.int .i64 ((i : Int))) ?_ ?_ (.bool false) (R (M.asked (M.asked s (2 * i + 2) (2 * i + 1)) (2 * i + 1) i)) (I.lessI (M.asked s (2 * i + 2) (2 * i + 1)) _ (2 * i + 1) i _ _ (by omega) (by omega) hR1 ?_ ?_ ?_ _ HL2.out) ?_)
                 · rfl
                 · rfl
                 · rfl
                 · rfl
                 · rw [F.len_asked, HL.out]; omega
                 · rw [F.len_asked, HL.out]; omega
                 · (have := F.cost_asked s (2 * i + 2) (2 * i + 1); omega)
                 intro w2 hR2))
            go_ret
            rw [← HD.out, HGO.out]
            exact ⟨rfl, hR2⟩
      · have h1z : ¬ (2 * (i : Int) + 1 + 1 < (n : Int)) := by omega
        have hp := pickM_one M (s := s) h1
        cases hl2 : M.less s (2 * i + 1) i with
        | true =>
          have hgo := downM_go M (f := k') (s := s) h0 (by rw [hp]; exact hl2)
          rw [hp] at hgo
          have HGO := Lib.hid hgo
          have HL2 := Lib.hid hl2
          clear hgo hp hl2
          go_wp2_with (first
              | ((with_reducible refine wpList_meth2 ?_ _ "Less" (.tmp 36) (.tmp 37) _ rfl T rv ?_ (.int .i64 (2 * (i : Int) + 1)) (.int .i64 ((i : Int))) ?_ ?_ (.bool true) (R (M.asked s (2 * i + 1) i)) (I.lessI s _ (2 * i + 1) i _ _ (by omega) (by omega) hR ?_ ?_ ?_ _ HL2.out) ?_)
                 · rfl
                 · rfl
                 · rfl
                 · rfl
                 · rw [HL.out]; omega
                 · rw [HL.out]; omega
                 · omega
                 intro w2 hR2)
              | ((with_reducible refine wpList_meth2 ?_ _ "Swap" (.tmp 41) (.tmp 42) _ rfl T rv ?_ (.int .i64 ((i : Int))) (.int .i64 (2 * (i : Int) + 1)) ?_ ?_ (.tuple #[]) (R (M.swap (M.asked s (2 * i + 1) i) i (2 * i + 1))) (I.swapI (M.asked s (2 * i + 1) i) _ i (2 * i + 1) _ _ (by omega) (by omega) hR2 ?_ ?_ ?_) ?_)
                 · rfl
                 · rfl
                 · rfl
                 · rfl
                 · rw [F.len_asked, HL.out]; omega
                 · rw [F.len_asked, HL.out]; omega
                 · (have := F.cost_asked s (2 * i + 1) i; omega)
                 intro w3 hR3))
          go_roundg k'
          case measure => omega
          case rel => exact ⟨2 * i + 1, _, by go_num, hR3, Lib.hid (by rw [F.len_swap, F.len_asked, HL.out]), by omega, (by have := F.cost_asked s (2 * i + 1) i; have := F.cost_swap (M.asked s (2 * i + 1) i) i (2 * i + 1); omega), Lib.hid (fuel_step HK.out (by omega)), Lib.hid (by rw [← HD.out, HGO.out])⟩
        | false =>
          have hgo := downM_halt M (f := k') (s := s) h0 (by rw [hp]; exact hl2)
          rw [hp] at hgo
          have HGO := Lib.hid hgo
          have HL2 := Lib.hid hl2
          clear hgo hp hl2
          go_wp2_with (first
              | ((with_reducible refine wpList_meth2 ?_ _ "Less" (.tmp 36) (.tmp 37) _ rfl T rv ?_ (.int .i64 (2 * (i : Int) + 1)) (.int .i64 ((i : Int))) ?_ ?_ (.bool false) (R (M.asked s (2 * i + 1) i)) (I.lessI s _ (2 * i + 1) i _ _ (by omega) (by omega) hR ?_ ?_ ?_ _ HL2.out) ?_)
                 · rfl
                 · rfl
                 · rfl
                 · rfl
                 · rw [HL.out]; omega
                 · rw [HL.out]; omega
                 · omega
                 intro w2 hR2))
          go_ret
          rw [← HD.out, HGO.out]
          exact ⟨rfl, hR2⟩

set_option maxHeartbeats 400000 in
theorem up_log (I : Impl Try.prog T rv M R C) (s0 : σ) (w : World) (j0 f0 : Nat) (hf0 : j0 + 1 ≤ 2 ^ f0) (hR0 : R s0 w) (hj0 : j0 < M.len s0) (hlen : M.len s0 < 4611686018427387904) (hcost : M.cost s0 + 2 * f0 ≤ C) :
    Calls Try.prog 37 #[.iface T rv, .int .i64 j0] w fun e w' => e = .returned (.tuple #[]) ∧ R (upM M f0 j0 s0) w' := by
  have F := I.fair
  have HF0 := Lib.hid hf0
  clear hf0
  go_enter Try.func37, Try.ntmps37
  go_wp2
  go_loopg [1] f0 (fun k s1 wr => ∃ (j : Nat) (s : σ), s1 = .int .i64 j ∧ R s wr ∧ Hid (M.len s = M.len s0) ∧ j < M.len s0 ∧ M.cost s + 2 * k ≤ C ∧ Hid (j + 1 ≤ 2 ^ k) ∧ Hid (upM M k j s = upM M f0 j0 s0))
  case atStart => exact ⟨j0, s0, rfl, hR0, rfl, hj0, hcost, HF0, rfl⟩
  case round =>
    obtain ⟨j, s, rfl, hR, HL, hj, hc, HK, HD⟩ := hrel
    by_cases h0 : j = 0
    · subst h0
      go_wp2
      go_end0
      rw [← HD.out, upM_top M rfl]
      exact ⟨rfl, hR⟩
    · have hne : ¬ (j - 1) / 2 = j := by omega
      have hbz : (((j : Int) - 1) / 2 == (j : Int)) = false := by rw [beq_eq_false_iff_ne]; omega
      have hgk := up_fuel_pos HK.out h0
      obtain ⟨k', rfl⟩ : ∃ k', gk = k' + 1 := ⟨gk - 1, by omega⟩
      cases hl2 : M.less s j ((j - 1) / 2) with
      | true =>
        have hgo := upM_go M (f := k') (s := s) hne hl2
        have HGO := Lib.hid hgo
        have HL2 := Lib.hid hl2
        have h0z : 1 ≤ (j : Int) := by omega
        clear hgo hl2 hne h0
        go_wp2_with (first
              | ((with_reducible refine wpList_meth2 ?_ _ "Less" (.tmp 13) (.tmp 14) _ rfl T rv ?_ (.int .i64 ((j : Int))) (.int .i64 (((j : Int) - 1) / 2)) ?_ ?_ (.bool true) (R (M.asked s j ((j - 1) / 2))) (I.lessI s _ j ((j - 1) / 2) _ _ rfl (by omega) hR ?_ ?_ ?_ _ HL2.out) ?_)
                 · rfl
                 · rfl
                 · rfl
                 · rfl
                 · rw [HL.out]; omega
                 · rw [HL.out]; omega
                 · omega
                 intro w1 hR1)
              | ((with_reducible refine wpList_meth2 ?_ _ "Swap" (.tmp 19) (.tmp 20) _ rfl T rv ?_ (.int .i64 (((j : Int) - 1) / 2)) (.int .i64 ((j : Int))) ?_ ?_ (.tuple #[]) (R (M.swap (M.asked s j ((j - 1) / 2)) ((j - 1) / 2) j)) (I.swapI (M.asked s j ((j - 1) / 2)) _ ((j - 1) / 2) j _ _ (by omega) rfl hR1 ?_ ?_ ?_) ?_)
                 · rfl
                 · rfl
                 · rfl
                 · rfl
                 · rw [F.len_asked, HL.out]; omega
                 · rw [F.len_asked, HL.out]; omega
                 · (have := F.cost_asked s j ((j - 1) / 2); omega)
                 intro w2 hR2))
        go_roundg k'
        case measure => omega
        case rel => exact ⟨(j - 1) / 2, _, by go_num, hR2, Lib.hid (by rw [F.len_swap, F.len_asked, HL.out]), by omega, (by have := F.cost_asked s j ((j - 1) / 2); have := F.cost_swap (M.asked s j ((j - 1) / 2)) ((j - 1) / 2) j; omega), Lib.hid (up_fuel_step HK.out), Lib.hid (by rw [← HD.out, HGO.out])⟩
      | false =>
        have hgo := upM_halt M (f := k') (s := s) hne hl2
        have HGO := Lib.hid hgo
        have HL2 := Lib.hid hl2
        have h0z : 1 ≤ (j : Int) := by omega
        clear hgo hl2 hne h0
        go_wp2_with (first
              | ((with_reducible refine wpList_meth2 ?_ _ "Less" (.tmp 13) (.tmp 14) _ rfl T rv ?_ (.int .i64 ((j : Int))) (.int .i64 (((j : Int) - 1) / 2)) ?_ ?_ (.bool false) (R (M.asked s j ((j - 1) / 2))) (I.lessI s _ j ((j - 1) / 2) _ _ rfl (by omega) hR ?_ ?_ ?_ _ HL2.out) ?_)
                 · rfl
                 · rfl
                 · rfl
                 · rfl
                 · rw [HL.out]; omega
                 · rw [HL.out]; omega
                 · omega
                 intro w1 hR1))
        go_end0
        rw [← HD.out, HGO.out]
        exact ⟨rfl, hR1⟩

set_option maxHeartbeats 400000 in
theorem push_log (I : Impl Try.prog T rv M R C) (s1 : σ) (w : World) (x : Value) (n f0 : Nat) (hf0 : n + 1 ≤ 2 ^ f0)
    (hpush : Meth Try.prog T rv "Push" #[x] w fun e w' => e = .returned (.tuple #[]) ∧ R s1 w')
    (hn : M.len s1 = n + 1) (hlen : n + 1 < 4611686018427387904) (hcost : M.cost s1 + 2 * f0 ≤ C) :
    Calls Try.prog 34 #[.iface T rv, x] w fun e w' => e = .returned (.tuple #[]) ∧ R (upM M f0 n s1) w' := by
  have HN := Lib.hid hn
  have HF0 := Lib.hid hf0
  clear hf0
  have HP := Lib.hid hpush
  clear hn hpush
  go_enter Try.func34, Try.ntmps34
  go_wp2_with (first
    | ((with_reducible refine wpList_meth1 ?_ _ "Push" _ _ rfl T rv ?_ x ?_ (.tuple #[]) (R s1) HP.out ?_)
       · rfl
       · rfl
       · rfl
       intro w1 hR1)
    | ((with_reducible refine wpList_meth0 ?_ _ "Len" _ rfl T rv ?_ (.int .i64 ((n : Int) + 1)) (R s1) ?_ ?_)
       · rfl
       · rfl
       · have h := I.len s1 _ hR1
         rw [HN.out] at h
         exact h
       intro w2 hR2)
    | (go_at_call 37; refine (up_log I s1 _ n f0 HF0.out hR2 (by rw [HN.out]; omega) (by rw [HN.out]; omega) hcost).mono ?_; rintro e w3 ⟨rfl, hR3⟩))
  go_end0
  exact ⟨rfl, hR3⟩

set_option maxHeartbeats 400000 in
theorem pop_log (I : Impl Try.prog T rv M R C) (s0 : σ) (w : World) (n f0 : Nat) (hf0 : n < 2 ^ (f0 + 1)) (x : Value) (R' : World → Prop) (hR0 : R s0 w) (hn : M.len s0 = n + 1) (hlen : n + 1 < 4611686018427387904) (hcost : M.cost s0 + 3 * f0 + 1 ≤ C)
    (hpop : ∀ w1, R (downM M n f0 0 (M.swap s0 0 n)).2 w1 → Meth Try.prog T rv "Pop" #[] w1 fun e w' => e = .returned x ∧ R' w') :
    Calls Try.prog 35 #[.iface T rv] w fun e w' => e = .returned x ∧ R' w' := by
  have F := I.fair
  have HF0 := Lib.hid (show n < (0 + 1) * 2 ^ (f0 + 1) by rw [Nat.zero_add, Nat.one_mul]; exact hf0)
  clear hf0
  have HN := Lib.hid hn
  have HP := Lib.hid hpop
  clear hn hpop
  have hc2 := F.cost_swap s0 0 n
  go_enter Try.func35, Try.ntmps35
  go_wp2_with (first
    | ((with_reducible refine wpList_meth0 ?_ _ "Len" _ rfl T rv ?_ (.int .i64 ((n : Int) + 1)) (R s0) ?_ ?_)
       · rfl
       · rfl
       · have h := I.len s0 _ hR0
         rw [HN.out] at h
         exact h
       intro w1 hR1)
    | ((with_reducible refine wpList_meth2 ?_ _ "Swap" _ _ _ rfl T rv ?_ (.int .i64 0) (.int .i64 (n : Int)) ?_ ?_ (.tuple #[]) (R (M.swap s0 0 n)) (I.swapI s0 _ 0 n _ _ rfl rfl hR1 ?_ ?_ ?_) ?_)
       · rfl
       · rfl
       · rfl
       · rfl
       · rw [HN.out]; omega
       · rw [HN.out]; omega
       · omega
       intro w2 hR2)
    | (go_at_call 36; refine (down_log I (M.swap s0 0 n) _ 0 n f0 HF0.out hR2 (by rw [F.len_swap, HN.out]; omega) (by omega) (by rw [F.len_swap, HN.out]; omega) (by omega)).mono ?_; rintro e w3 ⟨rfl, hR3⟩)
    | ((with_reducible refine wpList_meth0 ?_ _ "Pop" _ rfl T rv ?_ x R' (HP.out _ hR3) ?_)
       · rfl
       · rfl
       intro w4 hR4))
  go_ret
  exact ⟨rfl, hR4⟩
end
end Go.Proofs.Ytpglibneflefgaa
