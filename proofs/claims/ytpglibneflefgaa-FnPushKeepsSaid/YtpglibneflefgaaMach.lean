/- The plain machine: what container/heap's down, up, Init, Push, Pop do to a state that answers Len, Less and Swap. No program in sight. -/
namespace Go.Proofs.Ytpglibneflefgaa
set_option linter.unusedVariables false

/-- A state that answers Len, Less, Swap: 'asked' is the state behind a call of Less. -/
structure HM (σ : Type) where
  len : σ → Nat
  less : σ → Nat → Nat → Bool
  asked : σ → Nat → Nat → σ
  swap : σ → Nat → Nat → σ
  cost : σ → Nat

structure HM.Fair {σ : Type} (M : HM σ) : Prop where
  len_asked : ∀ s i j, M.len (M.asked s i j) = M.len s
  len_swap : ∀ s i j, M.len (M.swap s i j) = M.len s
  cost_asked : ∀ s i j, M.cost (M.asked s i j) ≤ M.cost s + 1
  cost_swap : ∀ s i j, M.cost (M.swap s i j) ≤ M.cost s + 1

section
variable {σ : Type} (M : HM σ)

/-- The child of i that down takes, and the state behind that choice. -/
def pickM (n i : Nat) (s : σ) : Nat × σ :=
  if 2 * i + 2 < n then (if M.less s (2 * i + 2) (2 * i + 1) then 2 * i + 2 else 2 * i + 1, M.asked s (2 * i + 2) (2 * i + 1))
  else (2 * i + 1, s)

def downM (n : Nat) : Nat → Nat → σ → Nat × σ
  | 0, i, s => (i, s)
  | f + 1, i, s =>
    if n ≤ 2 * i + 1 then (i, s)
    else
      if M.less (pickM M n i s).2 (pickM M n i s).1 i then
        downM n f (pickM M n i s).1 (M.swap (M.asked (pickM M n i s).2 (pickM M n i s).1 i) i (pickM M n i s).1)
      else (i, M.asked (pickM M n i s).2 (pickM M n i s).1 i)

def upM : Nat → Nat → σ → σ
  | 0, _, s => s
  | f + 1, j, s =>
    if (j - 1) / 2 = j then s
    else if M.less s j ((j - 1) / 2) then upM f ((j - 1) / 2) (M.swap (M.asked s j ((j - 1) / 2)) ((j - 1) / 2) j)
    else M.asked s j ((j - 1) / 2)

/-- Init's loop: k nodes are left, the greatest index first. -/
def initM (n : Nat) : Nat → σ → σ
  | 0, s => s
  | k + 1, s => initM n k (downM M n n k s).2

theorem downM_stop {n f i : Nat} {s : σ} (h : n ≤ 2 * i + 1) : downM M n f i s = (i, s) := by
  cases f with
  | zero => rfl
  | succ f => rw [downM, if_pos h]

theorem pickM_both {n i : Nat} {s : σ} (h : 2 * i + 2 < n) : pickM M n i s = (if M.less s (2 * i + 2) (2 * i + 1) then 2 * i + 2 else 2 * i + 1, M.asked s (2 * i + 2) (2 * i + 1)) := by
  rw [pickM, if_pos h]
theorem pickM_one {n i : Nat} {s : σ} (h : ¬ 2 * i + 2 < n) : pickM M n i s = (2 * i + 1, s) := by
  rw [pickM, if_neg h]

theorem downM_go {n f i : Nat} {s : σ} (h : ¬ n ≤ 2 * i + 1) (hl : M.less (pickM M n i s).2 (pickM M n i s).1 i = true) :
    downM M n (f + 1) i s = downM M n f (pickM M n i s).1 (M.swap (M.asked (pickM M n i s).2 (pickM M n i s).1 i) i (pickM M n i s).1) := by
  rw [downM, if_neg h, if_pos hl]
theorem downM_halt {n f i : Nat} {s : σ} (h : ¬ n ≤ 2 * i + 1) (hl : M.less (pickM M n i s).2 (pickM M n i s).1 i = false) :
    downM M n (f + 1) i s = (i, M.asked (pickM M n i s).2 (pickM M n i s).1 i) := by
  rw [downM, if_neg h, if_neg (by simp [hl])]

theorem upM_top {f j : Nat} {s : σ} (h : (j - 1) / 2 = j) : upM M f j s = s := by
  cases f with
  | zero => rfl
  | succ f => rw [upM, if_pos h]
theorem upM_go {f j : Nat} {s : σ} (h : ¬ (j - 1) / 2 = j) (hl : M.less s j ((j - 1) / 2) = true) :
    upM M (f + 1) j s = upM M f ((j - 1) / 2) (M.swap (M.asked s j ((j - 1) / 2)) ((j - 1) / 2) j) := by
  rw [upM, if_neg h, if_pos hl]
theorem upM_halt {f j : Nat} {s : σ} (h : ¬ (j - 1) / 2 = j) (hl : M.less s j ((j - 1) / 2) = false) :
    upM M (f + 1) j s = M.asked s j ((j - 1) / 2) := by
  rw [upM, if_neg h, if_neg (by simp [hl])]

variable {M}
theorem HM.Fair.len_pick (F : M.Fair) (n i : Nat) (s : σ) : M.len (pickM M n i s).2 = M.len s := by
  unfold pickM; split
  · exact F.len_asked _ _ _
  · rfl
theorem HM.Fair.cost_pick (F : M.Fair) (n i : Nat) (s : σ) : M.cost (pickM M n i s).2 ≤ M.cost s + 1 := by
  unfold pickM; split
  · exact F.cost_asked _ _ _
  · exact Nat.le_succ _
theorem pick_bounds (n i : Nat) (s : σ) (h : ¬ n ≤ 2 * i + 1) : 2 * i + 1 ≤ (pickM M n i s).1 ∧ (pickM M n i s).1 < n ∧ (pickM M n i s).1 ≤ 2 * i + 2 := by
  unfold pickM; split
  · dsimp only; split <;> omega
  · dsimp only; omega

theorem HM.Fair.len_down (F : M.Fair) (n : Nat) : ∀ (f i : Nat) (s : σ), M.len (downM M n f i s).2 = M.len s
  | 0, _, _ => rfl
  | f + 1, i, s => by
    rw [downM]
    split
    · rfl
    · split
      · rw [F.len_down n f, F.len_swap, F.len_asked, F.len_pick]
      · rw [F.len_asked, F.len_pick]
theorem HM.Fair.cost_down (F : M.Fair) (n : Nat) : ∀ (f i : Nat) (s : σ), M.cost (downM M n f i s).2 ≤ M.cost s + 3 * f
  | 0, _, _ => Nat.le_refl _
  | f + 1, i, s => by
    rw [downM]
    have hp := F.cost_pick n i s
    have ha := F.cost_asked (pickM M n i s).2 (pickM M n i s).1 i
    split
    · dsimp only; omega
    · split
      · have h1 := F.cost_down n f (pickM M n i s).1 (M.swap (M.asked (pickM M n i s).2 (pickM M n i s).1 i) i (pickM M n i s).1)
        have h2 := F.cost_swap (M.asked (pickM M n i s).2 (pickM M n i s).1 i) i (pickM M n i s).1
        omega
      · dsimp only; omega
theorem HM.Fair.len_up (F : M.Fair) : ∀ (f j : Nat) (s : σ), M.len (upM M f j s) = M.len s
  | 0, _, _ => rfl
  | f + 1, j, s => by
    rw [upM]
    split
    · rfl
    · split
      · rw [F.len_up f, F.len_swap, F.len_asked]
      · rw [F.len_asked]
theorem HM.Fair.cost_up (F : M.Fair) : ∀ (f j : Nat) (s : σ), M.cost (upM M f j s) ≤ M.cost s + 2 * f
  | 0, _, _ => Nat.le_refl _
  | f + 1, j, s => by
    rw [upM]
    have ha := F.cost_asked s j ((j - 1) / 2)
    split
    · omega
    · split
      · have h1 := F.cost_up f ((j - 1) / 2) (M.swap (M.asked s j ((j - 1) / 2)) ((j - 1) / 2) j)
        have h2 := F.cost_swap (M.asked s j ((j - 1) / 2)) ((j - 1) / 2) j
        omega
      · omega
theorem HM.Fair.len_init (F : M.Fair) (n : Nat) : ∀ (k : Nat) (s : σ), M.len (initM M n k s) = M.len s
  | 0, _ => rfl
  | k + 1, s => by rw [initM, F.len_init n k, F.len_down]
theorem HM.Fair.cost_init (F : M.Fair) (n : Nat) : ∀ (k : Nat) (s : σ), M.cost (initM M n k s) ≤ M.cost s + 3 * n * k
  | 0, _ => Nat.le_refl _
  | k + 1, s => by
    rw [initM]
    have h1 := F.cost_init n k (downM M n n k s).2
    have h2 := F.cost_down n n k s
    rw [Nat.mul_succ]
    omega
end
end Go.Proofs.Ytpglibneflefgaa
