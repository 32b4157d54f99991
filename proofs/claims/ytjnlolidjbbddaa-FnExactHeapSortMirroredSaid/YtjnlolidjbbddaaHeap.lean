/- The contracts of container/heap's up, Init, Push, Pop, for every value that answers Len, Less and Swap as a plain machine does. -/
import Derived.Test.YtjnlolidjbbddaaDown
namespace Go.Proofs.Ytjnlolidjbbddaa
set_option linter.unusedVariables false
open Go.RowKit
section
variable {T : TypeId} {rv : Value} {σ : Type} {M : HM σ} {R : σ → World → Prop} {C : Nat}


set_option maxHeartbeats 400000 in
theorem init_any (I : Impl Try.prog T rv M R C) (s0 : σ) (w : World) (n : Nat) (hR0 : R s0 w) (hn : M.len s0 = n) (hlen : n < 4611686018427387904) (hcost : M.cost s0 + 3 * n * (n / 2) ≤ C) :
    Calls Try.prog 14 #[.iface T rv] w fun e w' => e = .returned (.tuple #[]) ∧ R (initM M n (n / 2) s0) w' := by
  have F := I.fair
  have HN := Lib.hid hn
  clear hn
  go_enter Try.func14, Try.ntmps14
  go_wp2_with ((with_reducible refine wpList_meth0 ?_ _ "Len" _ rfl T rv ?_ (.int .i64 n) (R s0) ?_ ?_)
               · rfl
               · rfl
               · have h := I.len s0 _ hR0
                 rw [HN.out] at h
                 exact h
               intro w1 hR1)
  go_loopg [3] (n / 2) (fun k s3 wr => ∃ (s : σ), s3 = .int .i64 ((k : Int) - 1) ∧ R s wr ∧ Hid (M.len s = n) ∧ k ≤ n ∧ M.cost s + 3 * n * k ≤ C ∧ Hid (initM M n k s = initM M n (n / 2) s0))
  case atStart => exact ⟨s0, by go_num, hR1, HN, by omega, hcost, rfl⟩
  case round =>
    obtain ⟨s, rfl, hR, HL, hk, hc, HD⟩ := hrel
    by_cases h0 : gk = 0
    · subst h0
      go_wp2
      go_end0
      rw [← HD.out]
      exact ⟨rfl, hR⟩
    · obtain ⟨k, rfl⟩ : ∃ k, gk = k + 1 := ⟨gk - 1, by omega⟩
      have h1 : ((k + 1 : Nat) : Int) - 1 = (k : Int) := by omega
      rw [h1]
      clear h1 h0
      have hc' : M.cost s + 3 * n * k + 3 * n ≤ C := by rw [Nat.mul_succ] at hc; omega
      have hd := down_any I s wr k n hR (by rw [HL.out]; omega) (by rw [HL.out]; omega) (by rw [HL.out]; omega) (by omega)
      have HDn := Lib.hid hd
      clear hd
      go_wp2_with (go_at_call 17; refine HDn.out.mono ?_; rintro e w2 ⟨rfl, hR2⟩)
      go_roundg k
      case measure => omega
      case rel => exact ⟨_, rfl, hR2, Lib.hid (by rw [F.len_down, HL.out]), by omega, (by have := F.cost_down n n k s; omega), Lib.hid (by rw [← HD.out]; rfl)⟩


set_option maxHeartbeats 400000 in
theorem pop_any (I : Impl Try.prog T rv M R C) (s0 : σ) (w : World) (n : Nat) (x : Value) (R' : World → Prop) (hR0 : R s0 w) (hn : M.len s0 = n + 1) (hlen : n + 1 < 4611686018427387904) (hcost : M.cost s0 + 3 * n + 1 ≤ C)
    (hpop : ∀ w1, R (downM M n n 0 (M.swap s0 0 n)).2 w1 → Meth Try.prog T rv "Pop" #[] w1 fun e w' => e = .returned x ∧ R' w') :
    Calls Try.prog 15 #[.iface T rv] w fun e w' => e = .returned x ∧ R' w' := by
  have F := I.fair
  have HN := Lib.hid hn
  have HP := Lib.hid hpop
  clear hn hpop
  have hc2 := F.cost_swap s0 0 n
  go_enter Try.func15, Try.ntmps15
  go_wp2_with (first
    | ((with_reducible refine wpList_meth0 ?_ _ "Len" _ rfl T rv ?_ (.int .i64 ((n : Int) + 1)) (R s0) ?_ ?_)
       · rfl
       · rfl
       · have h := I.len s0 _ hR0
         rw [HN.out] at h
         exact h
       intro w1 hR1)
    | ((with_reducible refine wpList_meth2 ?_ _ "Swap" _ _ _ rfl T rv ?_ (.int .i64 0) (.int .i64 (n : Int)) ?_ ?_ (.tuple #[]) (R (M.swap s0 0 n)) (I.swapI s0 _ 0 n _ _ rfl rfl hR1 ?_ ?_ ?_) ?_)
       · rfl
       · rfl
       · rfl
       · rfl
       · rw [HN.out]; omega
       · rw [HN.out]; omega
       · omega
       intro w2 hR2)
    | (go_at_call 17; refine (down_any I (M.swap s0 0 n) _ 0 n hR2 (by rw [F.len_swap, HN.out]; omega) (by omega) (by rw [F.len_swap, HN.out]; omega) (by omega)).mono ?_; rintro e w3 ⟨rfl, hR3⟩)
    | ((with_reducible refine wpList_meth0 ?_ _ "Pop" _ rfl T rv ?_ x R' (HP.out _ hR3) ?_)
       · rfl
       · rfl
       intro w4 hR4))
  go_ret
  exact ⟨rfl, hR4⟩

end
end Go.Proofs.Ytjnlolidjbbddaa
