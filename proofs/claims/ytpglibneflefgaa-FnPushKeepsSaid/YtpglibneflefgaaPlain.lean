/- Plain laws of the list machine: down, up, Init keep the elements; they make heap order; pops are sorted. No program in sight. -/
import Derived.Test.YtpglibneflefgaaRow
namespace Go.Proofs.Ytpglibneflefgaa
set_option linter.unusedVariables false

section
variable {α : Type}
theorem perm_swp (l : List α) (i j : Nat) : (swp l i j).Perm l := by
  by_cases hi : i < l.length
  · by_cases hj : j < l.length
    · rw [swp_eq hi hj]
      classical
      rw [List.perm_iff_count]
      intro x
      by_cases hij : i = j
      · subst hij; simp
      · rw [List.count_set (by simpa using hj), List.count_set hi]
        simp only [List.getElem_set, hij, if_false]
        have h1 : (if l[i] == x then 1 else 0) ≤ l.count x := by
          split
          · rename_i h
            have h : l[i] = x := by simpa using h
            exact List.one_le_count_iff.2 (h ▸ List.getElem_mem hi)
          · omega
        generalize (if l[i] == x then 1 else 0) = a at *
        generalize (if l[j] == x then 1 else 0) = b at *
        omega
    · simp [swp, hi, hj]
  · simp [swp, hi]

variable (lt : α → α → Bool)
theorem perm_pick (n i : Nat) (s : List α) : ((pickM (listM lt) n i s).2).Perm s := by
  unfold pickM; split <;> exact List.Perm.refl _
theorem perm_down (n : Nat) : ∀ (f i : Nat) (s : List α), ((downM (listM lt) n f i s).2).Perm s
  | 0, _, _ => List.Perm.refl _
  | f + 1, i, s => by
    rw [downM]
    split
    · exact List.Perm.refl _
    · split
      · exact (perm_down n f _ _).trans ((perm_swp _ _ _).trans (perm_pick lt n i s))
      · exact perm_pick lt n i s
theorem perm_up : ∀ (f j : Nat) (s : List α), (upM (listM lt) f j s).Perm s
  | 0, _, _ => List.Perm.refl _
  | f + 1, j, s => by
    rw [upM]
    split
    · exact List.Perm.refl _
    · split
      · exact (perm_up f _ _).trans (perm_swp _ _ _)
      · exact List.Perm.refl _
theorem perm_init (n : Nat) : ∀ (k : Nat) (s : List α), (initM (listM lt) n k s).Perm s
  | 0, _ => List.Perm.refl _
  | k + 1, s => (perm_init n k _).trans (perm_down lt n n k s)

/-! what lies behind n is not touched -/
theorem get_swp {l : List α} {i j : Nat} (hi : i < l.length) (hj : j < l.length) (m : Nat) : (swp l i j)[m]? = if m = j then l[i]? else if m = i then l[j]? else l[m]? := by
  rw [swp_eq hi hj, List.getElem?_set, List.getElem?_set]
  by_cases h1 : m = j
  · subst h1
    simp [hj, hi]
  · by_cases h2 : m = i
    · subst h2
      simp [hi, hj, show ¬ j = m from fun e => h1 e.symm, h1]
    · simp [show ¬ j = m from fun e => h1 e.symm, show ¬ i = m from fun e => h2 e.symm, h1, h2]
theorem pick_same (n i : Nat) (s : List α) : (pickM (listM lt) n i s).2 = s := by
  unfold pickM; split <;> rfl
theorem down_far (n : Nat) : ∀ (f i : Nat) (s : List α) (m : Nat), n ≤ m → n ≤ s.length → ((downM (listM lt) n f i s).2)[m]? = s[m]?
  | 0, _, _, _, _, _ => rfl
  | f + 1, i, s, m, hm, hn => by
    rw [downM]
    split
    · rfl
    · rename_i h
      have hp := pick_bounds (M := listM lt) n i s h
      split
      · rw [down_far n f _ _ m hm (by show n ≤ (swp _ _ _).length; rw [length_swp]; show n ≤ ((pickM (listM lt) n i s).2).length; rw [pick_same]; exact hn)]
        show (swp ((pickM (listM lt) n i s).2) i (pickM (listM lt) n i s).1)[m]? = _
        rw [pick_same, get_swp (by omega) (by omega), if_neg (by omega), if_neg (by omega)]
      · show ((pickM (listM lt) n i s).2)[m]? = _
        rw [pick_same]
end

/-! heap order -/
/-- 'lt' is a strict weak order among the elements of which S holds; 'le a b' is 'not lt b a'. -/
structure Weak {α : Type} (lt : α → α → Bool) (S : α → Prop) : Prop where
  asymm : ∀ a b, S a → S b → lt a b = true → lt b a = false
  trans : ∀ a b c, S a → S b → S c → lt b a = false → lt c b = false → lt c a = false
theorem Weak.refl {α : Type} {lt : α → α → Bool} {S : α → Prop} (W : Weak lt S) (a : α) (h : S a) : lt a a = false := by
  cases e : lt a a with
  | false => rfl
  | true => rw [← e]; exact W.asymm a a h h e

section
variable {α : Type} (lt : α → α → Bool) (d : α)
def at_ (s : List α) (i : Nat) : α := s.getD i d
theorem at_get {s : List α} {i : Nat} (h : i < s.length) : at_ d s i = s[i] := by simp [at_, h]
theorem at_mem {s : List α} {i : Nat} (h : i < s.length) : at_ d s i ∈ s := by rw [at_get d h]; exact List.getElem_mem h
theorem less_at {s : List α} {i j : Nat} (hi : i < s.length) (hj : j < s.length) : (listM lt).less s i j = lt (at_ d s i) (at_ d s j) := by
  rw [listM_less lt hi hj, at_get d hi, at_get d hj]
theorem at_swp {s : List α} {i j : Nat} (hi : i < s.length) (hj : j < s.length) (m : Nat) : at_ d (swp s i j) m = if m = j then at_ d s i else if m = i then at_ d s j else at_ d s m := by
  unfold at_
  rw [List.getD_eq_getElem?_getD, get_swp hi hj]
  split
  · rw [List.getD_eq_getElem?_getD]
  · split <;> rw [List.getD_eq_getElem?_getD]

/-- Among the first n elements, no one comes before the one above it, where that has an index from k on. -/
def HP (n k : Nat) (s : List α) : Prop := ∀ j, 1 ≤ j → j < n → k ≤ (j - 1) / 2 → lt (at_ d s j) (at_ d s ((j - 1) / 2)) = false
def DInv (n k i : Nat) (s : List α) : Prop :=
  (∀ j, 1 ≤ j → j < n → k ≤ (j - 1) / 2 → (j - 1) / 2 ≠ i → lt (at_ d s j) (at_ d s ((j - 1) / 2)) = false) ∧
  (∀ j, 1 ≤ j → j < n → (j - 1) / 2 = i → 1 ≤ i → k ≤ (i - 1) / 2 → lt (at_ d s j) (at_ d s ((i - 1) / 2)) = false)
def UInv (n j : Nat) (s : List α) : Prop :=
  (∀ m, 1 ≤ m → m < n → m ≠ j → lt (at_ d s m) (at_ d s ((m - 1) / 2)) = false) ∧
  (∀ m, 1 ≤ m → m < n → (m - 1) / 2 = j → 1 ≤ j → lt (at_ d s m) (at_ d s ((j - 1) / 2)) = false)

variable {lt} {S : α → Prop}
theorem pick_least (W : Weak lt S) (n i : Nat) (s : List α) (hS : ∀ x ∈ s, S x) (hn : n ≤ s.length) (h : ¬ n ≤ 2 * i + 1) (j : Nat) (hj : j < n) (hji : j = 2 * i + 1 ∨ j = 2 * i + 2) :
    lt (at_ d s j) (at_ d s (pickM (listM lt) n i s).1) = false := by
  unfold pickM
  by_cases h2 : 2 * i + 2 < n
  · rw [if_pos h2]
    dsimp only
    have s1 := hS _ (at_mem d (s := s) (i := 2 * i + 1) (by omega))
    have s2 := hS _ (at_mem d (s := s) (i := 2 * i + 2) (by omega))
    have hl := less_at lt d (s := s) (i := 2 * i + 2) (j := 2 * i + 1) (by omega) (by omega)
    rw [hl]
    cases e : lt (at_ d s (2 * i + 2)) (at_ d s (2 * i + 1)) with
    | true =>
      simp only [if_true]
      rcases hji with rfl | rfl
      · exact W.asymm _ _ s2 s1 e
      · exact W.refl _ s2
    | false =>
      simp only [Bool.false_eq_true, if_false]
      rcases hji with rfl | rfl
      · exact W.refl _ s1
      · exact e
  · rw [if_neg h2]
    dsimp only
    rcases hji with rfl | rfl
    · exact W.refl _ (hS _ (at_mem d (by omega)))
    · omega

theorem down_heap (W : Weak lt S) (n k : Nat) : ∀ (f i : Nat) (s : List α), (∀ x ∈ s, S x) → n ≤ s.length → n ≤ f + i → k ≤ i → DInv lt d n k i s → HP lt d n k (downM (listM lt) n f i s).2
  | 0, i, s, _, _, hf, _, hD => by
    intro j h1 h2 h3
    exact hD.1 j h1 h2 h3 (by omega)
  | f + 1, i, s, hS, hn, hf, hk, hD => by
    rw [downM]
    split
    · rename_i h
      intro j h1 h2 h3
      exact hD.1 j h1 h2 h3 (by omega)
    · rename_i h
      have hp := pick_bounds (M := listM lt) n i s h
      have hc : ((pickM (listM lt) n i s).1 - 1) / 2 = i := by omega
      have hpl := pick_least d W n i s hS hn h
      rw [pick_same lt]
      generalize (pickM (listM lt) n i s).1 = c at *
      rw [less_at lt d (by omega) (by omega)]
      have sc := hS _ (at_mem d (s := s) (i := c) (by omega))
      have si := hS _ (at_mem d (s := s) (i := i) (by omega))
      split
      · rename_i hl
        refine down_heap W n k f c (swp s i c) (fun x hx => hS x ((perm_swp s i c).mem_iff.1 hx)) (by rw [length_swp]; exact hn) (by omega) (by omega) ⟨?_, ?_⟩
        · intro j h1 h2 h3 h4
          rw [at_swp d (by omega) (by omega), at_swp d (by omega) (by omega)]
          by_cases e1 : j = c
          · subst e1
            rw [if_pos rfl, if_neg (by omega), if_pos (by omega)]
            exact W.asymm _ _ sc si hl
          · rw [if_neg e1, if_neg h4]
            by_cases e2 : (j - 1) / 2 = i
            · rw [if_pos e2, if_neg (by omega)]
              exact hpl j h2 (by omega)
            · rw [if_neg e2]
              by_cases e3 : j = i
              · subst e3
                rw [if_pos rfl]
                exact hD.2 c (by omega) (by omega) hc h1 h3
              · rw [if_neg e3]
                exact hD.1 j h1 h2 h3 e2
        · intro j h1 h2 h3 h4 h5
          rw [at_swp d (by omega) (by omega), at_swp d (by omega) (by omega), if_neg (by omega), if_neg (by omega), if_neg (by omega), if_pos (by omega)]
          have := hD.1 j h1 h2 (by omega) (by omega)
          rw [h3] at this
          exact this
      · rename_i hl
        have hl : lt (at_ d s c) (at_ d s i) = false := by simpa using hl
        show HP lt d n k s
        intro j h1 h2 h3
        by_cases e : (j - 1) / 2 = i
        · rw [e]
          exact W.trans _ _ _ si sc (hS _ (at_mem d (by omega))) hl (hpl j h2 (by omega))
        · exact hD.1 j h1 h2 h3 e

theorem up_heap (W : Weak lt S) (n : Nat) : ∀ (f j : Nat) (s : List α), (∀ x ∈ s, S x) → n = s.length → j < n → j ≤ f → UInv lt d n j s → HP lt d n 0 (upM (listM lt) f j s)
  | 0, j, s, _, _, _, hf, hU => by
    intro m h1 h2 _
    exact hU.1 m h1 h2 (by omega)
  | f + 1, j, s, hS, hn, hj, hf, hU => by
    rw [upM]
    by_cases h0 : (j - 1) / 2 = j
    · rw [if_pos h0]
      intro m h1 h2 _
      exact hU.1 m h1 h2 (by omega)
    · rw [if_neg h0, less_at lt d (by omega) (by omega)]
      have sj := hS _ (at_mem d (s := s) (i := j) (by omega))
      have si := hS _ (at_mem d (s := s) (i := (j - 1) / 2) (by omega))
      generalize hi : (j - 1) / 2 = i at *
      split
      · rename_i hl
        refine up_heap W n f i (swp s i j) (fun x hx => hS x ((perm_swp s i j).mem_iff.1 hx)) (by rw [length_swp]; exact hn) (by omega) (by omega) ⟨?_, ?_⟩
        · intro m h1 h2 h3
          rw [at_swp d (by omega) (by omega), at_swp d (by omega) (by omega)]
          by_cases e1 : m = j
          · subst e1
            rw [if_pos rfl, if_neg (by omega), if_pos hi]
            exact W.asymm _ _ sj si hl
          · rw [if_neg e1, if_neg h3]
            by_cases e2 : (m - 1) / 2 = j
            · rw [if_pos e2]
              have := hU.2 m h1 h2 e2 (by omega)
              rw [hi] at this
              exact this
            · rw [if_neg e2]
              by_cases e3 : (m - 1) / 2 = i
              · rw [if_pos e3]
                have h5 := hU.1 m h1 h2 e1
                rw [e3] at h5
                exact W.trans _ _ _ sj si (hS _ (at_mem d (by omega))) (W.asymm _ _ sj si hl) h5
              · rw [if_neg e3]
                exact hU.1 m h1 h2 e1
        · intro m h1 h2 h3 h4
          rw [at_swp d (by omega) (by omega), at_swp d (by omega) (by omega)]
          have h5 := hU.1 i (by omega) (by omega) (by omega)
          rw [if_neg (show ¬ (i - 1) / 2 = j by omega), if_neg (show ¬ (i - 1) / 2 = i by omega)]
          by_cases e1 : m = j
          · rw [if_pos e1]
            exact h5
          · rw [if_neg e1, if_neg (by omega)]
            have h6 := hU.1 m h1 h2 e1
            rw [h3] at h6
            exact W.trans _ _ _ (hS _ (at_mem d (by omega))) si (hS _ (at_mem d (by omega))) h5 h6
      · rename_i hl
        have hl : lt (at_ d s j) (at_ d s i) = false := by simpa using hl
        intro m h1 h2 _
        show lt (at_ d s m) (at_ d s ((m - 1) / 2)) = false
        by_cases e : m = j
        · subst e; rw [hi]; exact hl
        · exact hU.1 m h1 h2 e

theorem init_heap (W : Weak lt S) (n : Nat) : ∀ (k : Nat) (s : List α), (∀ x ∈ s, S x) → n = s.length → HP lt d n k s → HP lt d n 0 (initM (listM lt) n k s)
  | 0, _, _, _, h => h
  | k + 1, s, hS, hn, h => by
    rw [initM]
    refine init_heap W n k _ (fun x hx => hS x ((perm_down lt n n k s).mem_iff.1 hx)) (by rw [hn]; exact ((listM_fair lt).len_down _ _ _ _).symm) ?_
    exact down_heap d W n k n k s hS (by omega) (by omega) (Nat.le_refl _) ⟨fun j h1 h2 h3 h4 => h j h1 h2 (by omega), fun j h1 h2 h3 h4 h5 => by omega⟩

theorem heap_start (n : Nat) (s : List α) : HP lt d n (n / 2) s := fun j h1 h2 h3 => by omega

theorem HP.root (W : Weak lt S) {n : Nat} {s : List α} (hS : ∀ x ∈ s, S x) (hn : n ≤ s.length) (h : HP lt d n 0 s) : ∀ j, j < n → lt (at_ d s j) (at_ d s 0) = false := by
  intro j
  induction j using Nat.strongRecOn with
  | _ j ih =>
    intro hj
    by_cases h0 : j = 0
    · subst h0; exact W.refl _ (hS _ (at_mem d (by omega)))
    · have h1 := h j (by omega) hj (Nat.zero_le _)
      exact W.trans _ _ _ (hS _ (at_mem d (by omega))) (hS _ (at_mem d (by omega))) (hS _ (at_mem d (by omega))) (ih ((j - 1) / 2) (by omega) (by omega)) h1

/-- Init of a list. -/
theorem init_whole (W : Weak lt S) (s : List α) (hS : ∀ x ∈ s, S x) : HP lt d s.length 0 (initM (listM lt) s.length (s.length / 2) s) :=
  init_heap d W _ _ s hS rfl (heap_start d _ s)
end
end Go.Proofs.Ytpglibneflefgaa
