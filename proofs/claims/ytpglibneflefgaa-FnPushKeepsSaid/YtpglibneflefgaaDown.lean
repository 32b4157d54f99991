/- The contracts of container/heap's functions, for every value that answers Len, Less and Swap as a plain machine does. -/
import Derived.Test.YtpglibneflefgaaCore
import Derived.Test.YtpglibneflefgaaMach
import Derived.Lib.Hide
namespace Go.Proofs.Ytpglibneflefgaa
set_option linter.unusedVariables false
open Go.RowKit

structure Impl (P : Program) (T : TypeId) (rv : Value) {σ : Type} (M : HM σ) (R : σ → World → Prop) (C : Nat) : Prop where
  fair : M.Fair
  len : ∀ s w, R s w → Meth P T rv "Len" #[] w fun e w' => e = .returned (.int .i64 (M.len s)) ∧ R s w'
  less : ∀ s w (i j : Nat), R s w → i < M.len s → j < M.len s → M.cost s < C →
    Meth P T rv "Less" #[.int .i64 i, .int .i64 j] w fun e w' => e = .returned (.bool (M.less s i j)) ∧ R (M.asked s i j) w'
  swap : ∀ s w (i j : Nat), R s w → i < M.len s → j < M.len s → M.cost s < C →
    Meth P T rv "Swap" #[.int .i64 i, .int .i64 j] w fun e w' => e = .returned (.tuple #[]) ∧ R (M.swap s i j) w'

section
variable {P : Program} {T : TypeId} {rv : Value} {σ : Type} {M : HM σ} {R : σ → World → Prop} {C : Nat}

theorem Impl.lessI (I : Impl P T rv M R C) (s : σ) (w : World) (i j : Nat) (x y : Int) (hx : x = i) (hy : y = j) (hR : R s w) (hi : i < M.len s) (hj : j < M.len s) (hc : M.cost s < C) (b : Bool) (hb : M.less s i j = b) :
    Meth P T rv "Less" #[.int .i64 x, .int .i64 y] w fun e w' => e = .returned (.bool b) ∧ R (M.asked s i j) w' := by
  subst hx hy hb; exact I.less s w i j hR hi hj hc
theorem Impl.swapI (I : Impl P T rv M R C) (s : σ) (w : World) (i j : Nat) (x y : Int) (hx : x = i) (hy : y = j) (hR : R s w) (hi : i < M.len s) (hj : j < M.len s) (hc : M.cost s < C) :
    Meth P T rv "Swap" #[.int .i64 x, .int .i64 y] w fun e w' => e = .returned (.tuple #[]) ∧ R (M.swap s i j) w' := by
  subst hx hy; exact I.swap s w i j hR hi hj hc
end

section
variable {T : TypeId} {rv : Value} {σ : Type} {M : HM σ} {R : σ → World → Prop} {C : Nat}

set_option maxHeartbeats 400000 in
theorem down_any (I : Impl Try.prog T rv M R C) (s0 : σ) (w : World) (i0 n : Nat) (hR0 : R s0 w) (hn : n ≤ M.len s0) (hi0 : i0 ≤ M.len s0) (hlen : M.len s0 < 4611686018427387904) (hcost : M.cost s0 + 3 * n ≤ C) :
    Calls Try.prog 36 #[.iface T rv, .int .i64 i0, .int .i64 n] w fun e w' =>
      e = .returned (.bool (decide (i0 < (downM M n n i0 s0).1))) ∧ R (downM M n n i0 s0).2 w' := by
  have F := I.fair
  go_enter Try.func36, Try.ntmps36
  go_wp2
  go_loopg [7] n (fun k s7 wr => ∃ (i : Nat) (s : σ), s7 = .int .i64 i ∧ R s wr ∧ Hid (M.len s = M.len s0) ∧ i ≤ M.len s0 ∧ M.cost s + 3 * k ≤ C ∧ n ≤ k + i ∧ Hid (downM M n k i s = downM M n n i0 s0))
  case atStart => exact ⟨i0, s0, rfl, hR0, rfl, hi0, hcost, by omega, rfl⟩
  case round =>
    obtain ⟨i, s, rfl, hR, HL, hi, hc, hk, HD⟩ := hrel
    by_cases h0 : n ≤ 2 * i + 1
    · have h0z : (n : Int) ≤ 2 * (i : Int) + 1 := by omega
      go_wp2
      go_ret
      rw [← HD.out, downM_stop M h0]
      exact ⟨rfl, hR⟩
    · have h0z : ¬ ((n : Int) ≤ 2 * (i : Int) + 1) := by omega
      obtain ⟨k', rfl⟩ : ∃ k', gk = k' + 1 := ⟨gk - 1, by omega⟩
      by_cases h1 : 2 * i + 2 < n
      · have h1z : 2 * (i : Int) + 1 + 1 < (n : Int) := by omega
        have hp := pickM_both M (s := s) h1
        cases hl1 : M.less s (2 * i + 2) (2 * i + 1) with
        | true =>
          rw [hl1, if_pos rfl] at hp
          cases hl2 : M.less (M.asked s (2 * i + 2) (2 * i + 1)) (2 * i + 2) i with
          | true =>
            have hgo := downM_go M (f := k') (s := s) h0 (by rw [hp]; exact hl2)
            rw [hp] at hgo
            have HGO := Lib.hid hgo
            have HL1 := Lib.hid hl1
            have HL2 := Lib.hid hl2
            clear hgo hp hl2 hl1
            go_wp2_with (first
              | ((with_reducible refine wpList_meth2 ?_ _ "Less" (.tmp 30) (.tmp 31) _ rfl T rv ?_ (.int .i64 (2 * (i : Int) + 1 + 1)) (.int .i64 (2 * (i : Int) + 1)) ?_ ?_ (.bool true) (R (M.asked s (2 * i + 2) (2 * i + 1))) (I.lessI s _ (2 * i + 2) (2 * i + 1) _ _ (by omega) (by omega) hR ?_ ?_ ?_ _ HL1.out) ?_)
                 · rfl
                 · rfl
                 · rfl
                 · rfl
                 · rw [HL.out]; omega
                 · rw [HL.out]; omega
                 · omega
                 intro w1 hR1)
              | ((with_reducible refine wpList_meth2 ?_ _ "Less" (.tmp 36) (.tmp 37) _ rfl T rv ?_ (.int .i64 (2 * (i : Int) + 1 + 1)) (.int .i64 ((i : Int))) ?_ ?_ (.bool true) (R (M.asked (M.asked s (2 * i + 2) (2 * i + 1)) (2 * i + 2) i)) (I.lessI (M.asked s (2 * i + 2) (2 * i + 1)) _ (2 * i + 2) i _ _ (by omega) (by omega) hR1 ?_ ?_ ?_ _ HL2.out) ?_)
                 · rfl
                 · rfl
                 · rfl
                 · rfl
                 · rw [F.len_asked, HL.out]; omega
                 · rw [F.len_asked, HL.out]; omega
                 · (have := F.cost_asked s (2 * i + 2) (2 * i + 1); omega)
                 intro w2 hR2)
              | ((with_reducible refine wpList_meth2 ?_ _ "Swap" (.tmp 41) (.tmp 42) _ rfl T rv ?_ (.int .i64 ((i : Int))) (.int .i64 (2 * (i : Int) + 1 + 1)) ?_ ?_ (.tuple #[]) (R (M.swap (M.asked (M.asked s (2 * i + 2) (2 * i + 1)) (2 * i + 2) i) i (2 * i + 2))) (I.swapI (M.asked (M.asked s (2 * i + 2) (2 * i + 1)) (2 * i + 2) i) _ i (2 * i + 2) _ _ (by omega) (by omega) hR2 ?_ ?_ ?_) ?_)
                 · rfl
                 · rfl
                 · rfl
                 · rfl
                 · rw [F.len_asked, F.len_asked, HL.out]; omega
                 · rw [F.len_asked, F.len_asked, HL.out]; omega
                 · (have := F.cost_asked s (2 * i + 2) (2 * i + 1); have := F.cost_asked (M.asked s (2 * i + 2) (2 * i + 1)) (2 * i + 2) i; omega)
                 intro w3 hR3))
            go_roundg k'
            case measure => omega
            case rel => exact ⟨2 * i + 2, _, by go_num, hR3, Lib.hid (by rw [F.len_swap, F.len_asked, F.len_asked, HL.out]), by omega, (by have := F.cost_asked s (2 * i + 2) (2 * i + 1); have := F.cost_asked (M.asked s (2 * i + 2) (2 * i + 1)) (2 * i + 2) i; have := F.cost_swap (M.asked (M.asked s (2 * i + 2) (2 * i + 1)) (2 * i + 2) i) i (2 * i + 2); omega), by omega, Lib.hid (by rw [← HD.out, HGO.out])⟩
          | false =>
            have hgo := downM_halt M (f := k') (s := s) h0 (by rw [hp]; exact hl2)
            rw [hp] at hgo
            have HGO := Lib.hid hgo
            have HL1 := Lib.hid hl1
            have HL2 := Lib.hid hl2
            clear hgo hp hl2 hl1
            go_wp2_with (first
              | ((with_reducible refine wpList_meth2 ?_ _ "Less" (.tmp 30) (.tmp 31) _ rfl T rv ?_ (.int .i64 (2 * (i : Int) + 1 + 1)) (.int .i64 (2 * (i : Int) + 1)) ?_ ?_ (.bool true) (R (M.asked s (2 * i + 2) (2 * i + 1))) (I.lessI s _ (2 * i + 2) (2 * i + 1) _ _ (by omega) (by omega) hR ?_ ?_ ?_ _ HL1.out) ?_)
                 · rfl
                 · rfl
                 · rfl
                 · rfl
                 · rw [HL.out]; omega
                 · rw [HL.out]; omega
                 · omega
                 intro w1 hR1)
              | ((with_reducible refine wpList_meth2 ?_ _ "Less" (.tmp 36) (.tmp 37) _ rfl T rv ?_ (.int .i64 (2 * (i : Int) + 1 + 1)) (.int .i64 ((i : Int))) ?_ ?_ (.bool false) (R (M.asked (M.asked s (2 * i + 2) (2 * i + 1)) (2 * i + 2) i)) (I.lessI (M.asked s (2 * i + 2) (2 * i + 1)) _ (2 * i + 2) i _ _ (by omega) (by omega) hR1 ?_ ?_ ?_ _ HL2.out) ?_)
                 · rfl
                 · rfl
                 · rfl
                 · rfl
                 · rw [F.len_asked, HL.out]; omega
                 · rw [F.len_asked, HL.out]; omega
                 · (have := F.cost_asked s (2 * i + 2) (2 * i + 1); omega)
                 intro w2 hR2))
            go_ret
            rw [← HD.out, HGO.out]
            exact ⟨rfl, hR2⟩
        | false =>
          rw [hl1, if_neg (by simp)] at hp
          cases hl2 : M.less (M.asked s (2 * i + 2) (2 * i + 1)) (2 * i + 1) i with
          | true =>
            have hgo := downM_go M (f := k') (s := s) h0 (by rw [hp]; exact hl2)
            rw [hp] at hgo
            have HGO := Lib.hid hgo
            have HL1 := Lib.hid hl1
            have HL2 := Lib.hid hl2
            clear hgo hp hl2 hl1
            go_wp2_with (first
              | ((with_reducible refine wpList_meth2 ?_ _ "Less" (.tmp 30) (.tmp 31) _ rfl T rv ?_ (.int .i64 (2 * (i : Int) + 1 + 1)) (.int .i64 (2 * (i : Int) + 1)) ?_ ?_ (.bool false) (R (M.asked s (2 * i + 2) (2 * i + 1))) (I.lessI s _ (2 * i + 2) (2 * i + 1) _ _ (by omega) (by omega) hR ?_ ?_ ?_ _ HL1.out) ?_)
                 · rfl
                 · rfl
                 · rfl
                 · rfl
                 · rw [HL.out]; omega
                 · rw [HL.out]; omega
                 · omega
                 intro w1 hR1)
              | ((with_reducible refine wpList_meth2 ?_ _ "Less" (.tmp 36) (.tmp 37) _ rfl T rv ?_ (.int .i64 (2 * (i : Int) + 1)) (.int .i64 ((i : Int))) ?_ ?_ (.bool true) (R (M.asked (M.asked s (2 * i + 2) (2 * i + 1)) (2 * i + 1) i)) (I.lessI (M.asked s (2 * i + 2) (2 * i + 1)) _ (2 * i + 1) i _ _ (by omega) (by omega) hR1 ?_ ?_ ?_ _ HL2.out) ?_)
                 · rfl
                 · rfl
                 · rfl
                 · rfl
                 · rw [F.len_asked, HL.out]; omega
                 · rw [F.len_asked, HL.out]; omega
                 · (have := F.cost_asked s (2 * i + 2) (2 * i + 1); omega)
                 intro w2 hR2)
              | ((with_reducible refine wpList_meth2 ?_ _ "Swap" (.tmp 41) (.tmp 42) _ rfl T rv ?_ (.int .i64 ((i : Int))) (.int .i64 (2 * (i : Int) + 1)) ?_ ?_ (.tuple #[]) (R (M.swap (M.asked (M.asked s (2 * i + 2) (2 * i + 1)) (2 * i + 1) i) i (2 * i + 1))) (I.swapI (M.asked (M.asked s (2 * i + 2) (2 * i + 1)) (2 * i + 1) i) _ i (2 * i + 1) _ _ (by omega) (by omega) hR2 ?_ ?_ ?_) ?_)
                 · rfl
                 · rfl
                 · rfl
                 · rfl
                 · rw [F.len_asked, F.len_asked, HL.out]; omega
                 · rw [F.len_asked, F.len_asked, HL.out]; omega
                 · (have := F.cost_asked s (2 * i + 2) (2 * i + 1); have := F.cost_asked (M.asked s (2 * i + 2) (2 * i + 1)) (2 * i + 1) i; omega)
                 intro w3 hR3))
            go_roundg k'
            case measure => omega
            case rel => exact ⟨2 * i + 1, _, by go_num, hR3, Lib.hid (by rw [F.len_swap, F.len_asked, F.len_asked, HL.out]), by omega, (by have := F.cost_asked s (2 * i + 2) (2 * i + 1); have := F.cost_asked (M.asked s (2 * i + 2) (2 * i + 1)) (2 * i + 1) i; have := F.cost_swap (M.asked (M.asked s (2 * i + 2) (2 * i + 1)) (2 * i + 1) i) i (2 * i + 1); omega), by omega, Lib.hid (by rw [← HD.out, HGO.out])⟩
          | false =>
            have hgo := downM_halt M (f := k') (s := s) h0 (by rw [hp]; exact hl2)
            rw [hp] at hgo
            have HGO := Lib.hid hgo
            have HL1 := Lib.hid hl1
            have HL2 := Lib.hid hl2
            clear hgo hp hl2 hl1
            go_wp2_with (first
              | ((with_reducible refine wpList_meth2 ?_ _ "Less" (.tmp 30) (.tmp 31) _ rfl T rv ?_ (.int .i64 (2 * (i : Int) + 1 + 1)) (.int .i64 (2 * (i : Int) + 1)) ?_ ?_ (.bool false) (R (M.asked s (2 * i + 2) (2 * i + 1))) (I.lessI s _ (2 * i + 2) (2 * i + 1) _ _ (by omega) (by omega) hR ?_ ?_ ?_ _ HL1.out) ?_)
                 · rfl
                 · rfl
                 · rfl
                 · rfl
                 · rw [HL.out]; omega
                 · rw [HL.out]; omega
                 · omega
                 intro w1 hR1)
              | ((with_reducible refine wpList_meth2 ?_ _ "Less" (.tmp 36) (.tmp 37) _ rfl T rv ?_ (.int .i64 (2 * (i : Int) + 1)) (.int .i64 ((i : Int))) ?_ ?_ (.bool false) (R (M.asked (M.asked s (2 * i + 2) (2 * i + 1)) (2 * i + 1) i)) (I.lessI (M.asked s (2 * i + 2) (2 * i + 1)) _ (2 * i + 1) i _ _ (by omega) (by omega) hR1 ?_ ?_ ?_ _ HL2.out) ?_)
                 · rfl
                 · rfl
                 · rfl
                 · rfl
                 · rw [F.len_asked, HL.out]; omega
                 · rw [F.len_asked, HL.out]; omega
                 · (have := F.cost_asked s (2 * i + 2) (2 * i + 1); omega)
                 intro w2 hR2))
            go_ret
            rw [← HD.out, HGO.out]
            exact ⟨rfl, hR2⟩
      · have h1z : ¬ (2 * (i : Int) + 1 + 1 < (n : Int)) := by omega
        have hp := pickM_one M (s := s) h1
        cases hl2 : M.less s (2 * i + 1) i with
        | true =>
          have hgo := downM_go M (f := k') (s := s) h0 (by rw [hp]; exact hl2)
          rw [hp] at hgo
          have HGO := Lib.hid hgo
          have HL2 := Lib.hid hl2
          clear hgo hp hl2
          go_wp2_with (first
              | ((with_reducible refine wpList_meth2 ?_ _ "Less" (.tmp 36) (.tmp 37) _ rfl T rv ?_ (.int .i64 (2 * (i : Int) + 1)) (.int .i64 ((i : Int))) ?_ ?_ (.bool true) (R (M.asked s (2 * i + 1) i)) (I.lessI s _ (2 * i + 1) i _ _ (by omega) (by omega) hR ?_ ?_ ?_ _ HL2.out) ?_)
                 · rfl
                 · rfl
                 · rfl
                 · rfl
                 · rw [HL.out]; omega
                 · rw [HL.out]; omega
                 · omega
                 intro w2 hR2)
              | ((with_reducible refine wpList_meth2 ?_ _ "Swap" (.tmp 41) (.tmp 42) _ rfl T rv ?_ (.int .i64 ((i : Int))) (.int .i64 (2 * (i : Int) + 1)) ?_ ?_ (.tuple #[]) (R (M.swap (M.asked s (2 * i + 1) i) i (2 * i + 1))) (I.swapI (M.asked s (2 * i + 1) i) _ i (2 * i + 1) _ _ (by omega) (by omega) hR2 ?_ ?_ ?_) ?_)
                 · rfl
                 · rfl
                 · rfl
                 · rfl
                 · rw [F.len_asked, HL.out]; omega
                 · rw [F.len_asked, HL.out]; omega
                 · (have := F.cost_asked s (2 * i + 1) i; omega)
                 intro w3 hR3))
          go_roundg k'
          case measure => omega
          case rel => exact ⟨2 * i + 1, _, by go_num, hR3, Lib.hid (by rw [F.len_swap, F.len_asked, HL.out]), by omega, (by have := F.cost_asked s (2 * i + 1) i; have := F.cost_swap (M.asked s (2 * i + 1) i) i (2 * i + 1); omega), by omega, Lib.hid (by rw [← HD.out, HGO.out])⟩
        | false =>
          have hgo := downM_halt M (f := k') (s := s) h0 (by rw [hp]; exact hl2)
          rw [hp] at hgo
          have HGO := Lib.hid hgo
          have HL2 := Lib.hid hl2
          clear hgo hp hl2
          go_wp2_with (first
              | ((with_reducible refine wpList_meth2 ?_ _ "Less" (.tmp 36) (.tmp 37) _ rfl T rv ?_ (.int .i64 (2 * (i : Int) + 1)) (.int .i64 ((i : Int))) ?_ ?_ (.bool false) (R (M.asked s (2 * i + 1) i)) (I.lessI s _ (2 * i + 1) i _ _ (by omega) (by omega) hR ?_ ?_ ?_ _ HL2.out) ?_)
                 · rfl
                 · rfl
                 · rfl
                 · rfl
                 · rw [HL.out]; omega
                 · rw [HL.out]; omega
                 · omega
                 intro w2 hR2))
          go_ret
          rw [← HD.out, HGO.out]
          exact ⟨rfl, hR2⟩

end
end Go.Proofs.Ytpglibneflefgaa
