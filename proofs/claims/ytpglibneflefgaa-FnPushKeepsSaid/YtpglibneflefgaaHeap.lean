/- The contracts of container/heap's up, Init, Push, Pop, for every value that answers Len, Less and Swap as a plain machine does. -/
import Derived.Test.YtpglibneflefgaaDown
namespace Go.Proofs.Ytpglibneflefgaa
set_option linter.unusedVariables false
open Go.RowKit
section
variable {T : TypeId} {rv : Value} {σ : Type} {M : HM σ} {R : σ → World → Prop} {C : Nat}

set_option maxHeartbeats 400000 in
theorem up_any (I : Impl Try.prog T rv M R C) (s0 : σ) (w : World) (j0 : Nat) (hR0 : R s0 w) (hj0 : j0 < M.len s0) (hlen : M.len s0 < 4611686018427387904) (hcost : M.cost s0 + 2 * j0 ≤ C) :
    Calls Try.prog 37 #[.iface T rv, .int .i64 j0] w fun e w' => e = .returned (.tuple #[]) ∧ R (upM M j0 j0 s0) w' := by
  have F := I.fair
  go_enter Try.func37, Try.ntmps37
  go_wp2
  go_loopg [1] j0 (fun k s1 wr => ∃ (j : Nat) (s : σ), s1 = .int .i64 j ∧ R s wr ∧ Hid (M.len s = M.len s0) ∧ j < M.len s0 ∧ M.cost s + 2 * k ≤ C ∧ j ≤ k ∧ Hid (upM M k j s = upM M j0 j0 s0))
  case atStart => exact ⟨j0, s0, rfl, hR0, rfl, hj0, hcost, Nat.le_refl _, rfl⟩
  case round =>
    obtain ⟨j, s, rfl, hR, HL, hj, hc, hk, HD⟩ := hrel
    by_cases h0 : j = 0
    · subst h0
      go_wp2
      go_end0
      rw [← HD.out, upM_top M rfl]
      exact ⟨rfl, hR⟩
    · have hne : ¬ (j - 1) / 2 = j := by omega
      have hbz : (((j : Int) - 1) / 2 == (j : Int)) = false := by rw [beq_eq_false_iff_ne]; omega
      obtain ⟨k', rfl⟩ : ∃ k', gk = k' + 1 := ⟨gk - 1, by omega⟩
      cases hl2 : M.less s j ((j - 1) / 2) with
      | true =>
        have hgo := upM_go M (f := k') (s := s) hne hl2
        have HGO := Lib.hid hgo
        have HL2 := Lib.hid hl2
        have h0z : 1 ≤ (j : Int) := by omega
        clear hgo hl2 hne h0
        go_wp2_with (first
              | ((with_reducible refine wpList_meth2 ?_ _ "Less" (.tmp 13) (.tmp 14) _ rfl T rv ?_ (.int .i64 ((j : Int))) (.int .i64 (((j : Int) - 1) / 2)) ?_ ?_ (.bool true) (R (M.asked s j ((j - 1) / 2))) (I.lessI s _ j ((j - 1) / 2) _ _ rfl (by omega) hR ?_ ?_ ?_ _ HL2.out) ?_)
                 · rfl
                 · rfl
                 · rfl
                 · rfl
                 · rw [HL.out]; omega
                 · rw [HL.out]; omega
                 · omega
                 intro w1 hR1)
              | ((with_reducible refine wpList_meth2 ?_ _ "Swap" (.tmp 19) (.tmp 20) _ rfl T rv ?_ (.int .i64 (((j : Int) - 1) / 2)) (.int .i64 ((j : Int))) ?_ ?_ (.tuple #[]) (R (M.swap (M.asked s j ((j - 1) / 2)) ((j - 1) / 2) j)) (I.swapI (M.asked s j ((j - 1) / 2)) _ ((j - 1) / 2) j _ _ (by omega) rfl hR1 ?_ ?_ ?_) ?_)
                 · rfl
                 · rfl
                 · rfl
                 · rfl
                 · rw [F.len_asked, HL.out]; omega
                 · rw [F.len_asked, HL.out]; omega
                 · (have := F.cost_asked s j ((j - 1) / 2); omega)
                 intro w2 hR2))
        go_roundg k'
        case measure => omega
        case rel => exact ⟨(j - 1) / 2, _, by go_num, hR2, Lib.hid (by rw [F.len_swap, F.len_asked, HL.out]), by omega, (by have := F.cost_asked s j ((j - 1) / 2); have := F.cost_swap (M.asked s j ((j - 1) / 2)) ((j - 1) / 2) j; omega), by omega, Lib.hid (by rw [← HD.out, HGO.out])⟩
      | false =>
        have hgo := upM_halt M (f := k') (s := s) hne hl2
        have HGO := Lib.hid hgo
        have HL2 := Lib.hid hl2
        have h0z : 1 ≤ (j : Int) := by omega
        clear hgo hl2 hne h0
        go_wp2_with (first
              | ((with_reducible refine wpList_meth2 ?_ _ "Less" (.tmp 13) (.tmp 14) _ rfl T rv ?_ (.int .i64 ((j : Int))) (.int .i64 (((j : Int) - 1) / 2)) ?_ ?_ (.bool false) (R (M.asked s j ((j - 1) / 2))) (I.lessI s _ j ((j - 1) / 2) _ _ rfl (by omega) hR ?_ ?_ ?_ _ HL2.out) ?_)
                 · rfl
                 · rfl
                 · rfl
                 · rfl
                 · rw [HL.out]; omega
                 · rw [HL.out]; omega
                 · omega
                 intro w1 hR1))
        go_end0
        rw [← HD.out, HGO.out]
        exact ⟨rfl, hR1⟩

set_option maxHeartbeats 400000 in
theorem init_any (I : Impl Try.prog T rv M R C) (s0 : σ) (w : World) (n : Nat) (hR0 : R s0 w) (hn : M.len s0 = n) (hlen : n < 4611686018427387904) (hcost : M.cost s0 + 3 * n * (n / 2) ≤ C) :
    Calls Try.prog 33 #[.iface T rv] w fun e w' => e = .returned (.tuple #[]) ∧ R (initM M n (n / 2) s0) w' := by
  have F := I.fair
  have HN := Lib.hid hn
  clear hn
  go_enter Try.func33, Try.ntmps33
  go_wp2_with ((with_reducible refine wpList_meth0 ?_ _ "Len" _ rfl T rv ?_ (.int .i64 n) (R s0) ?_ ?_)
               · rfl
               · rfl
               · have h := I.len s0 _ hR0
                 rw [HN.out] at h
                 exact h
               intro w1 hR1)
  go_loopg [3] (n / 2) (fun k s3 wr => ∃ (s : σ), s3 = .int .i64 ((k : Int) - 1) ∧ R s wr ∧ Hid (M.len s = n) ∧ k ≤ n ∧ M.cost s + 3 * n * k ≤ C ∧ Hid (initM M n k s = initM M n (n / 2) s0))
  case atStart => exact ⟨s0, by go_num, hR1, HN, by omega, hcost, rfl⟩
  case round =>
    obtain ⟨s, rfl, hR, HL, hk, hc, HD⟩ := hrel
    by_cases h0 : gk = 0
    · subst h0
      go_wp2
      go_end0
      rw [← HD.out]
      exact ⟨rfl, hR⟩
    · obtain ⟨k, rfl⟩ : ∃ k, gk = k + 1 := ⟨gk - 1, by omega⟩
      have h1 : ((k + 1 : Nat) : Int) - 1 = (k : Int) := by omega
      rw [h1]
      clear h1 h0
      have hc' : M.cost s + 3 * n * k + 3 * n ≤ C := by rw [Nat.mul_succ] at hc; omega
      have hd := down_any I s wr k n hR (by rw [HL.out]; omega) (by rw [HL.out]; omega) (by rw [HL.out]; omega) (by omega)
      have HDn := Lib.hid hd
      clear hd
      go_wp2_with (go_at_call 36; refine HDn.out.mono ?_; rintro e w2 ⟨rfl, hR2⟩)
      go_roundg k
      case measure => omega
      case rel => exact ⟨_, rfl, hR2, Lib.hid (by rw [F.len_down, HL.out]), by omega, (by have := F.cost_down n n k s; omega), Lib.hid (by rw [← HD.out]; rfl)⟩

set_option maxHeartbeats 400000 in
theorem push_any (I : Impl Try.prog T rv M R C) (s1 : σ) (w : World) (x : Value) (n : Nat)
    (hpush : Meth Try.prog T rv "Push" #[x] w fun e w' => e = .returned (.tuple #[]) ∧ R s1 w')
    (hn : M.len s1 = n + 1) (hlen : n + 1 < 4611686018427387904) (hcost : M.cost s1 + 2 * n ≤ C) :
    Calls Try.prog 34 #[.iface T rv, x] w fun e w' => e = .returned (.tuple #[]) ∧ R (upM M n n s1) w' := by
  have HN := Lib.hid hn
  have HP := Lib.hid hpush
  clear hn hpush
  go_enter Try.func34, Try.ntmps34
  go_wp2_with (first
    | ((with_reducible refine wpList_meth1 ?_ _ "Push" _ _ rfl T rv ?_ x ?_ (.tuple #[]) (R s1) HP.out ?_)
       · rfl
       · rfl
       · rfl
       intro w1 hR1)
    | ((with_reducible refine wpList_meth0 ?_ _ "Len" _ rfl T rv ?_ (.int .i64 ((n : Int) + 1)) (R s1) ?_ ?_)
       · rfl
       · rfl
       · have h := I.len s1 _ hR1
         rw [HN.out] at h
         exact h
       intro w2 hR2)
    | (go_at_call 37; refine (up_any I s1 _ n hR2 (by rw [HN.out]; omega) (by rw [HN.out]; omega) hcost).mono ?_; rintro e w3 ⟨rfl, hR3⟩))
  go_end0
  exact ⟨rfl, hR3⟩

set_option maxHeartbeats 400000 in
theorem pop_any (I : Impl Try.prog T rv M R C) (s0 : σ) (w : World) (n : Nat) (x : Value) (R' : World → Prop) (hR0 : R s0 w) (hn : M.len s0 = n + 1) (hlen : n + 1 < 4611686018427387904) (hcost : M.cost s0 + 3 * n + 1 ≤ C)
    (hpop : ∀ w1, R (downM M n n 0 (M.swap s0 0 n)).2 w1 → Meth Try.prog T rv "Pop" #[] w1 fun e w' => e = .returned x ∧ R' w') :
    Calls Try.prog 35 #[.iface T rv] w fun e w' => e = .returned x ∧ R' w' := by
  have F := I.fair
  have HN := Lib.hid hn
  have HP := Lib.hid hpop
  clear hn hpop
  have hc2 := F.cost_swap s0 0 n
  go_enter Try.func35, Try.ntmps35
  go_wp2_with (first
    | ((with_reducible refine wpList_meth0 ?_ _ "Len" _ rfl T rv ?_ (.int .i64 ((n : Int) + 1)) (R s0) ?_ ?_)
       · rfl
       · rfl
       · have h := I.len s0 _ hR0
         rw [HN.out] at h
         exact h
       intro w1 hR1)
    | ((with_reducible refine wpList_meth2 ?_ _ "Swap" _ _ _ rfl T rv ?_ (.int .i64 0) (.int .i64 (n : Int)) ?_ ?_ (.tuple #[]) (R (M.swap s0 0 n)) (I.swapI s0 _ 0 n _ _ rfl rfl hR1 ?_ ?_ ?_) ?_)
       · rfl
       · rfl
       · rfl
       · rfl
       · rw [HN.out]; omega
       · rw [HN.out]; omega
       · omega
       intro w2 hR2)
    | (go_at_call 36; refine (down_any I (M.swap s0 0 n) _ 0 n hR2 (by rw [F.len_swap, HN.out]; omega) (by omega) (by rw [F.len_swap, HN.out]; omega) (by omega)).mono ?_; rintro e w3 ⟨rfl, hR3⟩)
    | ((with_reducible refine wpList_meth0 ?_ _ "Pop" _ rfl T rv ?_ x R' (HP.out _ hR3) ?_)
       · rfl
       · rfl
       intro w4 hR4))
  go_ret
  exact ⟨rfl, hR4⟩

end
end Go.Proofs.Ytpglibneflefgaa
