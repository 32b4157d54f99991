/- Plain laws of Pop and Push on a list: elements kept, heap order kept, pops sorted. No program in sight. -/
import Derived.Test.YtpglibneflefgaaPlain
namespace Go.Proofs.Ytpglibneflefgaa
set_option linter.unusedVariables false

theorem snoc_ind {α : Type} {P : List α → Prop} (h0 : P []) (h1 : ∀ l x, P l → P (l ++ [x])) (l : List α) : P l := by
  have h : ∀ r : List α, P r.reverse := fun r => by
    induction r with
    | nil => exact h0
    | cons x r ih => rw [List.reverse_cons]; exact h1 _ _ ih
  have := h l.reverse
  rwa [List.reverse_reverse] at this

section
variable {α : Type} (lt : α → α → Bool) (d : α)
/-- The list behind heap.Pop's Swap and down; what Pop leaves, and what it hands back. -/
def popAll (l : List α) : List α := (downM (listM lt) (l.length - 1) (l.length - 1) 0 (swp l 0 (l.length - 1))).2
def popRest (l : List α) : List α := (popAll lt l).take (l.length - 1)
def popTop (l : List α) : α := at_ d (popAll lt l) (l.length - 1)
theorem popAll_length (l : List α) : (popAll lt l).length = l.length := by
  unfold popAll; exact ((listM_fair lt).len_down _ _ _ _).trans (length_swp _ _ _)
theorem popRest_length (l : List α) : (popRest lt l).length = l.length - 1 := by
  unfold popRest; rw [List.length_take, popAll_length]; omega
theorem popAll_perm (l : List α) : (popAll lt l).Perm l := (perm_down lt _ _ _ _).trans (perm_swp _ _ _)
theorem popAll_split (l : List α) (h : 0 < l.length) : popRest lt l ++ [popTop lt d l] = popAll lt l := by
  unfold popRest popTop
  have hl := popAll_length lt l
  rw [at_get d (by omega), List.take_append_getElem (by omega)]
  exact List.take_of_length_le (by omega)
theorem popRest_perm (l : List α) (h : 0 < l.length) : (popRest lt l ++ [popTop lt d l]).Perm l := by
  rw [popAll_split lt d l h]; exact popAll_perm lt l
theorem popTop_mem (l : List α) (h : 0 < l.length) : popTop lt d l ∈ l := (popRest_perm lt d l h).mem_iff.1 (by simp)
theorem popRest_mem (l : List α) (h : 0 < l.length) (x : α) (hx : x ∈ popRest lt l) : x ∈ l := by
  have := popAll_perm lt l
  exact this.mem_iff.1 (List.mem_of_mem_take hx)
theorem popTop_first (l : List α) (h : 0 < l.length) : popTop lt d l = at_ d l 0 := by
  unfold popTop popAll at_
  rw [List.getD_eq_getElem?_getD, List.getD_eq_getElem?_getD, down_far lt _ _ _ _ _ (Nat.le_refl _) (by rw [length_swp]; omega), get_swp (by omega) (by omega), if_pos rfl]
theorem at_take (s : List α) (n j : Nat) (h : j < n) : at_ d (s.take n) j = at_ d s j := by
  unfold at_; rw [List.getD_eq_getElem?_getD, List.getD_eq_getElem?_getD, List.getElem?_take, if_pos h]
theorem at_append (s t : List α) (j : Nat) (h : j < s.length) : at_ d (s ++ t) j = at_ d s j := by
  unfold at_; rw [List.getD_eq_getElem?_getD, List.getD_eq_getElem?_getD, List.getElem?_append_left h]

variable {lt} {S : α → Prop}
theorem popRest_heap (W : Weak lt S) (l : List α) (hS : ∀ x ∈ l, S x) (h : 0 < l.length) (hp : HP lt d l.length 0 l) : HP lt d (popRest lt l).length 0 (popRest lt l) := by
  rw [popRest_length]
  have hd : HP lt d (l.length - 1) 0 (popAll lt l) := by
    refine down_heap d W (l.length - 1) 0 (l.length - 1) 0 (swp l 0 (l.length - 1)) (fun x hx => hS x ((perm_swp _ _ _).mem_iff.1 hx)) (by rw [length_swp]; omega) (by omega) (Nat.le_refl _) ⟨?_, fun j h1 h2 h3 h4 => by omega⟩
    intro j h1 h2 h3 h4
    rw [at_swp d (by omega) (by omega), at_swp d (by omega) (by omega), if_neg (by omega), if_neg (by omega), if_neg (by omega), if_neg (by omega)]
    exact hp j h1 (by omega) (Nat.zero_le _)
  intro j h1 h2 h3
  unfold popRest
  rw [at_take d _ _ _ h2, at_take d _ _ _ (by omega)]
  exact hd j h1 h2 h3
theorem popTop_least (W : Weak lt S) (l : List α) (hS : ∀ x ∈ l, S x) (h : 0 < l.length) (hp : HP lt d l.length 0 l) : ∀ x ∈ l, lt x (popTop lt d l) = false := by
  intro x hx
  obtain ⟨j, hj, rfl⟩ := List.getElem_of_mem hx
  rw [popTop_first lt d l h, ← at_get d hj]
  exact hp.root d W hS (Nat.le_refl _) j hj

variable (lt)
/-- k pops in a row. -/
def popsF : Nat → List α → List α
  | 0, _ => []
  | k + 1, l => popTop lt d l :: popsF k (popRest lt l)
theorem popsF_length : ∀ (k : Nat) (l : List α), (popsF lt d k l).length = k
  | 0, _ => rfl
  | k + 1, l => by rw [popsF, List.length_cons, popsF_length k]
theorem popsF_perm : ∀ (k : Nat) (l : List α), l.length = k → (popsF lt d k l).Perm l
  | 0, l, h => by rw [List.eq_nil_of_length_eq_zero h]; exact List.Perm.refl _
  | k + 1, l, h => by
    rw [popsF]
    have h1 := popsF_perm k (popRest lt l) (by rw [popRest_length]; omega)
    exact (List.Perm.cons _ h1).trans ((List.perm_append_singleton _ _).symm.trans (popRest_perm lt d l (by omega)))
theorem popsF_take : ∀ (k m : Nat) (l : List α), k ≤ m → popsF lt d k l = (popsF lt d m l).take k
  | 0, _, _, _ => rfl
  | k + 1, 0, _, h => by omega
  | k + 1, m + 1, l, h => by rw [popsF, popsF, List.take_succ_cons, popsF_take k m _ (by omega)]
theorem popsF_snoc : ∀ (k : Nat) (l : List α) , ∃ x r, popsF lt d (k + 1) l = popsF lt d k l ++ [x] ∧ r = x
  | 0, l => ⟨popTop lt d l, _, rfl, rfl⟩
  | k + 1, l => by
    obtain ⟨x, r, h1, h2⟩ := popsF_snoc k (popRest lt l)
    exact ⟨x, r, by rw [popsF, h1]; rfl, h2⟩
/-- What is left behind k pops. -/
def leftF : Nat → List α → List α
  | 0, l => l
  | k + 1, l => leftF k (popRest lt l)
theorem leftF_length : ∀ (k : Nat) (l : List α), (leftF lt k l).length = l.length - k
  | 0, _ => rfl
  | k + 1, l => by rw [leftF, leftF_length k, popRest_length]; omega
theorem leftF_succ : ∀ (k : Nat) (l : List α), leftF lt (k + 1) l = popRest lt (leftF lt k l)
  | 0, _ => rfl
  | k + 1, l => by rw [leftF, leftF_succ k]; rfl
theorem popsF_succ : ∀ (k : Nat) (l : List α), popsF lt d (k + 1) l = popsF lt d k l ++ [popTop lt d (leftF lt k l)]
  | 0, _ => rfl
  | k + 1, l => by rw [popsF, popsF_succ k]; rfl

variable {lt}
theorem popsF_sorted (W : Weak lt S) : ∀ (k : Nat) (l : List α), l.length = k → (∀ x ∈ l, S x) → HP lt d l.length 0 l → (popsF lt d k l).Pairwise fun a b => lt b a = false
  | 0, _, _, _, _ => List.Pairwise.nil
  | k + 1, l, h, hS, hp => by
    rw [popsF]
    refine List.Pairwise.cons (fun b hb => ?_) (popsF_sorted W k (popRest lt l) (by rw [popRest_length]; omega) (fun x hx => hS x (popRest_mem lt l (by omega) x hx)) (popRest_heap d W l hS (by omega) hp))
    have hb' := (popsF_perm lt d k (popRest lt l) (by rw [popRest_length]; omega)).mem_iff.1 hb
    exact popTop_least d W l hS (by omega) hp b (popRest_mem lt l (by omega) b hb')

variable (lt)
/-- heap.Push. -/
def pushF (l : List α) (x : α) : List α := upM (listM lt) l.length l.length (l ++ [x])
theorem pushF_length (l : List α) (x : α) : (pushF lt l x).length = l.length + 1 := by
  unfold pushF; exact ((listM_fair lt).len_up _ _ _).trans (by show (l ++ [x]).length = _; simp)
theorem pushF_perm (l : List α) (x : α) : (pushF lt l x).Perm (l ++ [x]) := perm_up lt _ _ _
variable {lt}
theorem pushF_heap (W : Weak lt S) (l : List α) (x : α) (hS : ∀ y ∈ l, S y) (hx : S x) (hp : HP lt d l.length 0 l) : HP lt d (pushF lt l x).length 0 (pushF lt l x) := by
  rw [pushF_length]
  refine up_heap d W (l.length + 1) l.length l.length (l ++ [x]) (fun y hy => ?_) (by simp) (by omega) (Nat.le_refl _) ⟨fun m h1 h2 h3 => ?_, fun m h1 h2 h3 h4 => by omega⟩
  · rcases List.mem_append.1 hy with h | h
    · exact hS y h
    · rw [List.mem_singleton.1 h]; exact hx
  · rw [at_append d _ _ _ (by omega), at_append d _ _ _ (by omega)]
    exact hp m h1 (by omega) (Nat.zero_le _)
variable (lt)
def pushAll (l : List α) : List α := l.foldl (pushF lt) []
theorem pushAll_snoc (l : List α) (x : α) : pushAll lt (l ++ [x]) = pushF lt (pushAll lt l) x := by simp [pushAll]
theorem pushAll_take (l : List α) (k : Nat) (h : k < l.length) : pushAll lt (l.take (k + 1)) = pushF lt (pushAll lt (l.take k)) l[k] := by
  rw [List.take_succ_eq_append_getElem h, pushAll_snoc]
theorem pushAll_perm (l : List α) : (pushAll lt l).Perm l := by
  refine snoc_ind (P := fun l => (pushAll lt l).Perm l) (List.Perm.refl _) (fun l x ih => ?_) l
  rw [pushAll_snoc]; exact (pushF_perm lt _ _).trans (List.Perm.append_right _ ih)
theorem pushAll_length (l : List α) : (pushAll lt l).length = l.length := (pushAll_perm lt l).length_eq
variable {lt}
theorem pushAll_heap (W : Weak lt S) (l : List α) (hS : ∀ y ∈ l, S y) : HP lt d (pushAll lt l).length 0 (pushAll lt l) := by
  refine snoc_ind (P := fun l => (∀ y ∈ l, S y) → HP lt d (pushAll lt l).length 0 (pushAll lt l)) (fun _ j h1 h2 => by simp [pushAll] at h2) (fun l x ih hS => ?_) l hS
  rw [pushAll_snoc]
  exact pushF_heap d W _ _ (fun y hy => hS y (by simp [(pushAll_perm lt l).mem_iff.1 hy])) (hS x (by simp)) (ih fun y hy => hS y (by simp [hy]))

/-- Init and as many pops as there are elements. -/
def sortF (lt : α → α → Bool) (d : α) (l : List α) : List α := popsF lt d l.length (initM (listM lt) l.length (l.length / 2) l)
theorem initM_length (lt : α → α → Bool) (l : List α) : (initM (listM lt) l.length (l.length / 2) l).length = l.length := (listM_fair lt).len_init _ _ _
theorem sortF_length (lt : α → α → Bool) (l : List α) : (sortF lt d l).length = l.length := popsF_length lt d _ _
theorem sortF_perm (lt : α → α → Bool) (l : List α) : (sortF lt d l).Perm l := (popsF_perm lt d _ _ (initM_length lt l)).trans (perm_init lt _ _ l)
theorem sortF_sorted (W : Weak lt S) (l : List α) (hS : ∀ x ∈ l, S x) : (sortF lt d l).Pairwise fun a b => lt b a = false := by
  refine popsF_sorted d W _ _ (initM_length lt l) (fun x hx => hS x ((perm_init lt _ _ l).mem_iff.1 hx)) ?_
  rw [initM_length]
  exact init_whole d W l hS
end

/-- Two lists of one length with equal counts at the first one's elements are permutations of each other. -/
theorem perm_of_counts {α : Type} [BEq α] [LawfulBEq α] : ∀ (a b : List α), a.length = b.length → (∀ x ∈ a, a.count x = b.count x) → a.Perm b
  | [], b, hl, _ => by rw [List.eq_nil_of_length_eq_zero hl.symm]
  | y :: a, b, hl, hc => by
    have hy : y ∈ b := by
      have := hc y (by simp)
      rw [List.count_cons_self] at this
      exact List.one_le_count_iff.1 (by omega)
    refine List.cons_perm_iff_perm_erase.2 ⟨hy, perm_of_counts a (b.erase y) ?_ fun x hx => ?_⟩
    · rw [List.length_erase_of_mem hy]
      simp at hl; omega
    · have h1 := hc x (by simp [hx])
      rw [List.count_erase]
      rw [List.count_cons] at h1
      split at h1 <;> simp_all <;> omega
end Go.Proofs.Ytpglibneflefgaa
