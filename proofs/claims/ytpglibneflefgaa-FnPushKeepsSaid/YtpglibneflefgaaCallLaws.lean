/- What the calls of Init, Push and Pop are: how many of each kind, and where their trail leads. -/
import Derived.Test.YtpglibneflefgaaWatchPlain
namespace Go.Proofs.Ytpglibneflefgaa
set_option linter.unusedVariables false

theorem cntK_nil (k : Int) : cntK k [] = 0 := rfl
theorem cntK_le (k : Int) (cs : List Cal) : cntK k cs ≤ cs.length := List.countP_le_length
theorem initCalls_adds (l : List (Int × Int)) : Adds (l, []) (initCalls l) (l.length - 1) (2 * l.length) l.length := by
  have h := adds_init l.length (l.length / 2) (l, []) rfl (Nat.le_refl _)
  have hs := sumH_le l.length
  exact h.wider (by omega) (by omega) hs
theorem initCalls_items (l : List (Int × Int)) : (initCalls l).1 = heapInit l := init_sim _ _ _
theorem initCalls_trail (l : List (Int × Int)) : Trail (l, []) (heapInit l, []) (initCalls l).2 := by
  rw [← initCalls_items]
  exact (initCalls_adds l).trail (l, []) [] (Trail.nil _)
theorem initCalls_length (l : List (Int × Int)) : (initCalls l).2.length ≤ 3 * l.length * (l.length / 2) := by
  have := watch_fair.cost_init l.length (l.length / 2) (l, [])
  simpa [watchM, initCalls] using this
theorem initCalls_short (l : List (Int × Int)) (hn : l.length ≤ 1048576) : (initCalls l).2.length ≤ 1649267441664 := by
  have h1 := initCalls_length l
  have h2 : 3 * l.length * (l.length / 2) ≤ 3 * 1048576 * 524288 := Nat.mul_le_mul (by omega) (by omega)
  omega

theorem push_fuel (l : List (Int × Int)) : l.length + 1 ≤ 2 ^ bitsN l.length := lt_bits _
theorem bits_small (n : Nat) (h : n < 4611686018427387904) : bitsN n ≤ 62 := bits_le n 62 (by omega)
theorem bits_small' (n : Nat) (h : n * 16 ≤ 140737488351232) : bitsN n ≤ 43 := bits_le n 43 (by omega)
theorem pushCalls_adds (l : List (Int × Int)) (k t : Int) : Adds (l ++ [(k, t)], [⟨3, l.length, k, t⟩]) (pushCalls (bitsN l.length) l k t) (if l.length = 0 then 0 else 1) (bitsN l.length) (bitsN l.length) := by
  have h := adds_up (bitsN l.length) l.length (l ++ [(k, t)], [⟨3, l.length, k, t⟩]) (by simp)
  refine h.wider ?_ (Nat.le_refl _) (Nat.le_refl _)
  by_cases h0 : l.length = 0
  · simp [h0]
  · have := bitsN_pos (show 0 < l.length by omega)
    rw [if_neg h0, if_neg (by omega)]
    exact Nat.le_refl _
theorem pushCalls_items (l : List (Int × Int)) (k t : Int) : (pushCalls (bitsN l.length) l k t).1 = pushF klt l (k, t) := by
  unfold pushCalls pushF
  rw [up_sim]
  exact up_same (listM klt) _ _ _ _ (push_fuel l) (lt_two_pow' _)
theorem pushCalls_trail (l : List (Int × Int)) (k t : Int) : Trail (l, []) (pushF klt l (k, t), []) (pushCalls (bitsN l.length) l k t).2 := by
  rw [← pushCalls_items]
  exact (pushCalls_adds l k t).trail (l, []) [] ((Trail.nil (l, [])).snoc (Stp.push l [] k t))
theorem pushCalls_length (l : List (Int × Int)) (k t : Int) : 1 ≤ (pushCalls (bitsN l.length) l k t).2.length := by
  have h1 := (pushCalls_adds l k t).pushes
  have h2 := cntK_le 3 (pushCalls (bitsN l.length) l k t).2
  have h3 : cntK 3 [(⟨3, l.length, k, t⟩ : Cal)] = 1 := by simp [cntK]
  dsimp only at h1
  omega
theorem pushCalls_short (l : List (Int × Int)) (k t : Int) : (pushCalls (bitsN l.length) l k t).2.length ≤ 1 + 2 * bitsN l.length := by
  have := watch_fair.cost_up (bitsN l.length) l.length (l ++ [(k, t)], [⟨3, l.length, k, t⟩])
  simpa [watchM, pushCalls] using this

theorem pop_fuel (l : List (Int × Int)) (h : 0 < l.length) : l.length - 1 < 2 ^ (bitsN l.length + 1) := by
  have := lt_bits l.length
  rw [Nat.pow_succ]
  omega
theorem downCalls_adds (l : List (Int × Int)) (h0 : 0 < l.length) : Adds (l, []) (downCalls (bitsN l.length) l) (if l.length < 3 then 0 else 1) (2 * bitsN l.length) (1 + bitsN l.length) := by
  have h1 := adds_swap (l, []) 0 (l.length - 1) (by show 0 < l.length; omega) (by show l.length - 1 < l.length; omega)
  have h2 := adds_down (l.length - 1) (bitsN l.length) 0 (watchM.swap (l, []) 0 (l.length - 1)) (by rw [h1.len]; show l.length - 1 ≤ l.length; omega)
  refine (h1.trans h2).wider ?_ (by omega) (Nat.le_refl _)
  by_cases h3 : l.length < 3
  · rw [if_pos h3]; exact Nat.zero_le _
  · have := bitsN_pos h0
    rw [if_neg h3, if_neg (by omega)]
    split <;> omega
theorem downCalls_items (l : List (Int × Int)) (h0 : 0 < l.length) : (downCalls (bitsN l.length) l).1 = popAll klt l := by
  unfold downCalls popAll
  rw [down_sim]
  refine congrArg Prod.snd (down_same (listM klt) _ _ _ _ _ ?_ (down_full _ _))
  have := pop_fuel l h0
  omega
theorem popCalls_eq (l : List (Int × Int)) (h0 : 0 < l.length) : popCalls (bitsN l.length) l = (downCalls (bitsN l.length) l).2 ++ [⟨4, ((l.length - 1 : Nat) : Int) + 1, (popTop klt (0, 0) l).1, (popTop klt (0, 0) l).2⟩] := by
  unfold popCalls popTop
  rw [downCalls_items l h0]
theorem popCalls_trail (l : List (Int × Int)) (h0 : 0 < l.length) : Trail (l, []) (popRest klt l, [popTop klt (0, 0) l]) (popCalls (bitsN l.length) l) := by
  rw [popCalls_eq l h0]
  have h1 := (downCalls_adds l h0).trail (l, []) [] (Trail.nil _)
  rw [downCalls_items l h0] at h1
  exact h1.snoc (Stp.pop (popAll klt l) [] (l.length - 1) _ _ (by rw [popAll_length]; omega) rfl)
theorem popCalls_asks (l : List (Int × Int)) (h0 : 0 < l.length) : cntK 1 (popCalls (bitsN l.length) l) ≤ 2 * bitsN l.length ∧ (3 ≤ l.length → 0 < cntK 1 (popCalls (bitsN l.length) l)) := by
  have h := downCalls_adds l h0
  have h1 := h.high
  have h2 := h.low
  dsimp only at h1 h2
  rw [cntK_nil] at h1 h2
  rw [popCalls_eq l h0, cntK_snoc]
  refine ⟨by simp; omega, fun h3 => ?_⟩
  rw [if_neg (by omega)] at h2
  simp
  omega
theorem popCalls_swaps (l : List (Int × Int)) (h0 : 0 < l.length) : cntK 2 (popCalls (bitsN l.length) l) ≤ bitsN l.length + 1 := by
  have h1 := (downCalls_adds l h0).swaps
  dsimp only at h1
  rw [cntK_nil] at h1
  rw [popCalls_eq l h0, cntK_snoc]
  simp
  omega
theorem popCalls_pushes (l : List (Int × Int)) (h0 : 0 < l.length) : cntK 3 (popCalls (bitsN l.length) l) = 0 := by
  have h1 := (downCalls_adds l h0).pushes
  dsimp only at h1
  rw [cntK_nil] at h1
  rw [popCalls_eq l h0, cntK_snoc]
  simp
  omega
theorem popCalls_pops (l : List (Int × Int)) (h0 : 0 < l.length) : cntK 4 (popCalls (bitsN l.length) l) = 1 := by
  have h1 := (downCalls_adds l h0).pops
  dsimp only at h1
  rw [cntK_nil] at h1
  rw [popCalls_eq l h0, cntK_snoc]
  simp
  omega
theorem popCalls_length (l : List (Int × Int)) (h0 : 0 < l.length) : 1 ≤ (popCalls (bitsN l.length) l).length := by
  rw [popCalls_eq l h0]; simp
theorem popCalls_short (l : List (Int × Int)) (h0 : 0 < l.length) : (popCalls (bitsN l.length) l).length ≤ 2 + 3 * bitsN l.length := by
  have := watch_fair.cost_down (l.length - 1) (bitsN l.length) 0 (watchM.swap (l, []) 0 (l.length - 1))
  have h2 : (downCalls (bitsN l.length) l).2.length ≤ 1 + 3 * bitsN l.length := by simpa [watchM, downCalls] using this
  rw [popCalls_eq l h0]
  simp
  omega
end Go.Proofs.Ytpglibneflefgaa
