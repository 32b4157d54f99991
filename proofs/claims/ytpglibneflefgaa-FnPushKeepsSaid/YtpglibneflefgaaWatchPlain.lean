/- Plain laws of the watched machine: its items are the list machine's; its calls replay to them; how many there are. -/
import Derived.Test.YtpglibneflefgaaWatchM
namespace Go.Proofs.Ytpglibneflefgaa
set_option linter.unusedVariables false

/-! the items are those of the list machine -/
section
theorem pick_sim (n i : Nat) (s : WS) : (pickM watchM n i s).1 = (pickM (listM klt) n i s.1).1 ∧ (pickM watchM n i s).2.1 = s.1 := by
  unfold pickM
  split <;> exact ⟨rfl, rfl⟩
theorem down_sim (n : Nat) : ∀ (f i : Nat) (s : WS), (downM watchM n f i s).2.1 = (downM (listM klt) n f i s.1).2
  | 0, _, _ => rfl
  | f + 1, i, s => by
    have hp := pick_sim n i s
    rw [downM, downM]
    split
    · rfl
    · have e : watchM.less (pickM watchM n i s).2 (pickM watchM n i s).1 i = (listM klt).less (pickM (listM klt) n i s.1).2 (pickM (listM klt) n i s.1).1 i := by
        show (listM klt).less (pickM watchM n i s).2.1 _ _ = _
        rw [hp.1, hp.2, pick_same]
      rw [e]
      split
      · rw [down_sim n f]
        show (downM (listM klt) n f _ (swp (pickM watchM n i s).2.1 i _)).2 = (downM (listM klt) n f _ (swp (pickM (listM klt) n i s.1).2 i _)).2
        rw [hp.1, hp.2, pick_same]
      · show (pickM watchM n i s).2.1 = (pickM (listM klt) n i s.1).2
        rw [hp.2, pick_same]
theorem up_sim : ∀ (f j : Nat) (s : WS), (upM watchM f j s).1 = upM (listM klt) f j s.1
  | 0, _, _ => rfl
  | f + 1, j, s => by
    rw [upM, upM]
    split
    · rfl
    · show (if (listM klt).less s.1 j ((j - 1) / 2) = true then _ else _ : WS).1 = _
      split
      · rw [up_sim f]; rfl
      · rfl
theorem init_sim (n : Nat) : ∀ (k : Nat) (s : WS), (initM watchM n k s).1 = initM (listM klt) n k s.1
  | 0, _ => rfl
  | k + 1, s => by rw [initM, initM, init_sim n k, down_sim]
end

/-! the calls, step by step -/
abbrev St := List (Int × Int) × List (Int × Int)
def Stp (s : St) (q : Cal) (s' : St) : Prop :=
  (∃ (h o : List (Int × Int)) (i j : Nat), i < h.length ∧ j < h.length ∧ s = (h, o) ∧ q = ⟨1, h.length, i, j⟩ ∧ s' = (h, o)) ∨
  (∃ (h o : List (Int × Int)) (i j : Nat), i < h.length ∧ j < h.length ∧ s = (h, o) ∧ q = ⟨2, h.length, i, j⟩ ∧ s' = (swp h i j, o)) ∨
  (∃ (h o : List (Int × Int)) (k t : Int), s = (h, o) ∧ q = ⟨3, h.length, k, t⟩ ∧ s' = (h ++ [(k, t)], o)) ∨
  (∃ (h o : List (Int × Int)) (n : Nat) (k t : Int), h.length = n + 1 ∧ at_ (0, 0) h n = (k, t) ∧ s = (h, o) ∧ q = ⟨4, (n : Int) + 1, k, t⟩ ∧ s' = (h.take n, o ++ [(k, t)]))
theorem Stp.less (h o : List (Int × Int)) (i j : Nat) (hi : i < h.length) (hj : j < h.length) : Stp (h, o) ⟨1, h.length, i, j⟩ (h, o) := .inl ⟨h, o, i, j, hi, hj, rfl, rfl, rfl⟩
theorem Stp.swap (h o : List (Int × Int)) (i j : Nat) (hi : i < h.length) (hj : j < h.length) : Stp (h, o) ⟨2, h.length, i, j⟩ (swp h i j, o) := .inr (.inl ⟨h, o, i, j, hi, hj, rfl, rfl, rfl⟩)
theorem Stp.push (h o : List (Int × Int)) (k t : Int) : Stp (h, o) ⟨3, h.length, k, t⟩ (h ++ [(k, t)], o) := .inr (.inr (.inl ⟨h, o, k, t, rfl, rfl, rfl⟩))
theorem Stp.pop (h o : List (Int × Int)) (n : Nat) (k t : Int) (hn : h.length = n + 1) (hk : at_ (0, 0) h n = (k, t)) : Stp (h, o) ⟨4, (n : Int) + 1, k, t⟩ (h.take n, o ++ [(k, t)]) := .inr (.inr (.inr ⟨h, o, n, k, t, hn, hk, rfl, rfl, rfl⟩))
def Trail (a b : St) (cs : List Cal) : Prop := ∃ st : Nat → St, st 0 = a ∧ st cs.length = b ∧ ∀ k (h : k < cs.length), Stp (st k) cs[k] (st (k + 1))
theorem Trail.nil (a : St) : Trail a a [] := ⟨fun _ => a, rfl, rfl, fun k h => by simp at h⟩
theorem Trail.snoc {a b d : St} {cs : List Cal} {c : Cal} (h : Trail a b cs) (hs : Stp b c d) : Trail a d (cs ++ [c]) := by
  obtain ⟨st, h0, h1, h2⟩ := h
  refine ⟨fun k => if k ≤ cs.length then st k else d, by simp [h0], by simp [show ¬ cs.length + 1 ≤ cs.length by omega], fun k hk => ?_⟩
  have hk' : k < cs.length + 1 := by simpa using hk
  by_cases e : k < cs.length
  · rw [List.getElem_append_left e]
    simpa [show k ≤ cs.length by omega, show k + 1 ≤ cs.length by omega] using h2 k e
  · obtain rfl : k = cs.length := by omega
    simpa [h1, show ¬ cs.length + 1 ≤ cs.length by omega] using hs

/-- What down, up, Init add to the calls: so many of Less, so many of Swap, no others. -/
def asks (cs : List Cal) : Nat := cs.countP fun c => decide (c.kind = 1)
def cntK (k : Int) (cs : List Cal) : Nat := cs.countP fun c => decide (c.kind = k)
theorem cntK_snoc (k : Int) (cs : List Cal) (c : Cal) : cntK k (cs ++ [c]) = cntK k cs + if c.kind = k then 1 else 0 := by
  unfold cntK
  rw [List.countP_append]
  simp [List.countP_cons]
structure Adds (s s' : WS) (lo hi sw : Nat) : Prop where
  len : s'.1.length = s.1.length
  low : cntK 1 s.2 + lo ≤ cntK 1 s'.2
  high : cntK 1 s'.2 ≤ cntK 1 s.2 + hi
  swaps : cntK 2 s'.2 ≤ cntK 2 s.2 + sw
  pushes : cntK 3 s'.2 = cntK 3 s.2
  pops : cntK 4 s'.2 = cntK 4 s.2
  all : ∀ c ∈ s'.2, c ∈ s.2 ∨ c.kind = 1 ∨ c.kind = 2
  trail : ∀ a o, Trail a (s.1, o) s.2 → Trail a (s'.1, o) s'.2
theorem Adds.refl (s : WS) : Adds s s 0 0 0 := ⟨rfl, Nat.le_refl _, Nat.le_refl _, Nat.le_refl _, rfl, rfl, fun _ h => .inl h, fun _ _ h => h⟩
theorem Adds.trans {s s1 s2 : WS} {lo hi sw lo' hi' sw' : Nat} (h : Adds s s1 lo hi sw) (k : Adds s1 s2 lo' hi' sw') : Adds s s2 (lo + lo') (hi + hi') (sw + sw') :=
  ⟨k.len.trans h.len, by have := h.low; have := k.low; omega, by have := h.high; have := k.high; omega, by have := h.swaps; have := k.swaps; omega, k.pushes.trans h.pushes, k.pops.trans h.pops,
    fun c hc => by
      rcases k.all c hc with h1 | h1
      · exact h.all c h1
      · exact .inr h1,
    fun a o ht => k.trail a o (h.trail a o ht)⟩
theorem Adds.wider {s s' : WS} {lo hi sw lo' hi' sw' : Nat} (h : Adds s s' lo hi sw) (h1 : lo' ≤ lo) (h2 : hi ≤ hi') (h3 : sw ≤ sw') : Adds s s' lo' hi' sw' :=
  ⟨h.len, by have := h.low; omega, by have := h.high; omega, by have := h.swaps; omega, h.pushes, h.pops, h.all, h.trail⟩
theorem adds_asked (s : WS) (i j : Nat) (hi : i < s.1.length) (hj : j < s.1.length) : Adds s (watchM.asked s i j) 1 1 0 := by
  refine ⟨rfl, ?_, ?_, ?_, ?_, ?_, ?_, fun a o ht => ht.snoc (Stp.less s.1 o i j hi hj)⟩ <;> simp only [watchM, cntK_snoc]
  · simp
  · simp
  · simp
  · simp
  · simp
  · intro c hc
    rcases List.mem_append.1 hc with h | h
    · exact .inl h
    · rw [List.mem_singleton.1 h]; exact .inr (.inl rfl)
theorem adds_swap (s : WS) (i j : Nat) (hi : i < s.1.length) (hj : j < s.1.length) : Adds s (watchM.swap s i j) 0 0 1 := by
  refine ⟨length_swp _ _ _, ?_, ?_, ?_, ?_, ?_, ?_, fun a o ht => ht.snoc (Stp.swap s.1 o i j hi hj)⟩ <;> simp only [watchM, cntK_snoc]
  · simp
  · simp
  · simp
  · simp
  · simp
  · intro c hc
    rcases List.mem_append.1 hc with h | h
    · exact .inl h
    · rw [List.mem_singleton.1 h]; exact .inr (.inr rfl)

theorem adds_pick (n i : Nat) (s : WS) (hn : n ≤ s.1.length) (h : ¬ n ≤ 2 * i + 1) : Adds s (pickM watchM n i s).2 (if 2 * i + 2 < n then 1 else 0) 1 0 := by
  by_cases h2 : 2 * i + 2 < n
  · rw [if_pos h2, pickM_both watchM h2]
    exact adds_asked s _ _ (by omega) (by omega)
  · rw [if_neg h2, pickM_one watchM h2]
    exact (Adds.refl s).wider (Nat.le_refl _) (by omega) (Nat.le_refl _)
theorem adds_down (n : Nat) : ∀ (f i : Nat) (s : WS), n ≤ s.1.length → Adds s (downM watchM n f i s).2 (if f = 0 ∨ n ≤ 2 * i + 1 then 0 else if 2 * i + 2 < n then 2 else 1) (2 * f) f
  | 0, i, s, _ => by rw [if_pos (.inl rfl)]; exact Adds.refl s
  | f + 1, i, s, hn => by
    by_cases h : n ≤ 2 * i + 1
    · rw [if_pos (.inr h), downM_stop watchM h]
      exact (Adds.refl s).wider (Nat.le_refl _) (Nat.zero_le _) (Nat.zero_le _)
    · rw [if_neg (by omega)]
      have hb := pick_bounds (M := watchM) n i s h
      have h1 := adds_pick n i s hn h
      have hl1 := h1.len
      have h2 := adds_asked (pickM watchM n i s).2 (pickM watchM n i s).1 i (by omega) (by omega)
      have h12 := h1.trans h2
      have hlo : (if 2 * i + 2 < n then 2 else 1) ≤ (if 2 * i + 2 < n then 1 else 0) + 1 := by split <;> omega
      cases hl : watchM.less (pickM watchM n i s).2 (pickM watchM n i s).1 i with
      | true =>
        rw [downM_go watchM h hl]
        have hl2 : (watchM.asked (pickM watchM n i s).2 (pickM watchM n i s).1 i).1.length = s.1.length := h12.len
        have h3 := adds_swap (watchM.asked (pickM watchM n i s).2 (pickM watchM n i s).1 i) i (pickM watchM n i s).1 (by omega) (by omega)
        have h4 := adds_down n f (pickM watchM n i s).1 (watchM.swap (watchM.asked (pickM watchM n i s).2 (pickM watchM n i s).1 i) i (pickM watchM n i s).1) (by rw [h3.len]; omega)
        exact ((h12.trans h3).trans h4).wider (by omega) (by omega) (by omega)
      | false =>
        rw [downM_halt watchM h hl]
        exact h12.wider hlo (by omega) (by omega)
theorem adds_up : ∀ (f j : Nat) (s : WS), j < s.1.length → Adds s (upM watchM f j s) (if f = 0 ∨ j = 0 then 0 else 1) f f
  | 0, j, s, _ => by rw [if_pos (.inl rfl)]; exact Adds.refl s
  | f + 1, j, s, hj => by
    by_cases h0 : (j - 1) / 2 = j
    · rw [upM_top watchM h0, if_pos (.inr (by omega))]
      exact (Adds.refl s).wider (Nat.le_refl _) (Nat.zero_le _) (Nat.zero_le _)
    · rw [if_neg (by omega)]
      have h1 := adds_asked s j ((j - 1) / 2) hj (by omega)
      cases hl : watchM.less s j ((j - 1) / 2) with
      | true =>
        rw [upM_go watchM h0 hl]
        have h3 := adds_swap (watchM.asked s j ((j - 1) / 2)) ((j - 1) / 2) j (by rw [h1.len]; omega) (by rw [h1.len]; omega)
        have h4 := adds_up f ((j - 1) / 2) (watchM.swap (watchM.asked s j ((j - 1) / 2)) ((j - 1) / 2) j) (by rw [h3.len, h1.len]; omega)
        exact ((h1.trans h3).trans h4).wider (by omega) (by omega) (by omega)
      | false =>
        rw [upM_halt watchM h0 hl]
        exact h1.wider (Nat.le_refl _) (by omega) (by omega)

/-! the height of a node, and the sum of the heights -/
/-- How many binary digits a number has. -/
def bitsF : Nat → Nat → Nat
  | 0, _ => 0
  | f + 1, n => if n = 0 then 0 else bitsF f (n / 2) + 1
def bitsN (n : Nat) : Nat := bitsF n n
theorem bitsF_enough : ∀ (f n : Nat), n ≤ f → ∀ f', f ≤ f' → bitsF f' n = bitsF f n
  | 0, n, h, f', _ => by
    obtain rfl : n = 0 := by omega
    cases f' <;> rfl
  | f + 1, n, h, f', hf => by
    obtain ⟨g, rfl⟩ : ∃ g, f' = g + 1 := ⟨f' - 1, by omega⟩
    rw [bitsF, bitsF]
    split
    · rfl
    · rw [bitsF_enough f (n / 2) (by omega) g (by omega)]
theorem bitsN_zero : bitsN 0 = 0 := rfl
theorem bitsN_pos {n : Nat} (h : 0 < n) : bitsN n = bitsN (n / 2) + 1 := by
  unfold bitsN
  obtain ⟨m, rfl⟩ : ∃ m, n = m + 1 := ⟨n - 1, by omega⟩
  rw [bitsF, if_neg (by omega), bitsF_enough ((m + 1) / 2) ((m + 1) / 2) (Nat.le_refl _) m (by omega)]
theorem lt_bits (n : Nat) : n < 2 ^ bitsN n := by
  induction n using Nat.strongRecOn with
  | _ n ih =>
    rcases Nat.eq_zero_or_pos n with rfl | h
    · decide
    · have := ih (n / 2) (by omega)
      rw [bitsN_pos h, Nat.pow_succ]
      omega
theorem bits_le (n k : Nat) (h : n < 2 ^ k) : bitsN n ≤ k := by
  induction k generalizing n with
  | zero =>
    obtain rfl : n = 0 := by simpa using h
    exact Nat.le_refl _
  | succ k ih =>
    rcases Nat.eq_zero_or_pos n with rfl | h0
    · exact Nat.zero_le _
    · have := ih (n / 2) (by rw [Nat.pow_succ] at h; omega)
      rw [bitsN_pos h0]
      omega
theorem bits_mono {m n : Nat} (h : m ≤ n) : bitsN m ≤ bitsN n := bits_le m _ (Nat.lt_of_le_of_lt h (lt_bits n))
/-- How many levels lie below node i of a heap of n. -/
def hgt (n i : Nat) : Nat := bitsN (n / (i + 1)) - 1
theorem hgt_fuel (n i : Nat) : n < (i + 1) * 2 ^ (hgt n i + 1) := by
  have h1 := lt_bits (n / (i + 1))
  have h2 : 2 ^ bitsN (n / (i + 1)) ≤ 2 ^ (hgt n i + 1) := Nat.pow_le_pow_right (by omega) (by unfold hgt; omega)
  have h3 : n / (i + 1) < 2 ^ (hgt n i + 1) := by omega
  have h4 := (Nat.div_lt_iff_lt_mul (show 0 < i + 1 by omega)).1 h3
  rw [Nat.mul_comm]
  exact h4
def sumH (n : Nat) : Nat → Nat
  | 0 => 0
  | k + 1 => sumH n k + hgt n k
theorem hgt_half (n i : Nat) (h : i < n / 2) : hgt n i = hgt (n / 2) i + 1 := by
  unfold hgt
  have h1 : 2 ≤ n / (i + 1) := by
    rw [Nat.le_div_iff_mul_le (by omega)]
    omega
  have h2 : n / (i + 1) / 2 = n / 2 / (i + 1) := by rw [Nat.div_div_eq_div_mul, Nat.div_div_eq_div_mul, Nat.mul_comm]
  rw [bitsN_pos (by omega), h2]
  have h3 : 0 < n / 2 / (i + 1) := by omega
  rw [bitsN_pos h3]
  omega
theorem sumH_half (n : Nat) : ∀ k, k ≤ n / 2 → sumH n k = k + sumH (n / 2) k
  | 0, _ => rfl
  | k + 1, h => by rw [sumH, sumH, sumH_half n k (by omega), hgt_half n k (by omega)]; omega
theorem hgt_leaf (n i : Nat) (h : n / 2 ≤ i) : hgt n i = 0 := by
  unfold hgt
  have : n / (i + 1) < 2 := by rw [Nat.div_lt_iff_lt_mul (by omega)]; omega
  have := bits_le (n / (i + 1)) 1 (by omega)
  omega
theorem sumH_leaf (n : Nat) : ∀ k, n / 2 ≤ k → sumH n k = sumH n (n / 2)
  | 0, h => by rw [show n / 2 = 0 by omega]
  | k + 1, h => by
    by_cases e : n / 2 = k + 1
    · rw [e]
    · rw [sumH, hgt_leaf n k (by omega), sumH_leaf n k (by omega)]; rfl
theorem sumH_le (n : Nat) : sumH n (n / 2) ≤ n := by
  induction n using Nat.strongRecOn with
  | _ n ih =>
    rcases Nat.eq_zero_or_pos n with rfl | h
    · exact Nat.le_refl _
    · rw [sumH_half n _ (Nat.le_refl _), sumH_leaf (n / 2) (n / 2) (by omega)]
      have := ih (n / 2) (by omega)
      omega

theorem adds_init (n : Nat) : ∀ (k : Nat) (s : WS), n = s.1.length → k ≤ n / 2 → Adds s (initM watchM n k s) (min (2 * k) (n - 1)) (2 * sumH n k) (sumH n k)
  | 0, s, _, _ => (Adds.refl s).wider (by omega) (Nat.zero_le _) (Nat.zero_le _)
  | k + 1, s, hn, hk => by
    rw [initM, sumH]
    have h0 : downM watchM n n k s = downM watchM n (hgt n k) k s := down_same watchM n n (hgt n k) k s (down_full n k) (hgt_fuel n k)
    have hlow := adds_down n n k s (by omega)
    have hhigh := adds_down n (hgt n k) k s (by omega)
    rw [← h0] at hhigh
    rw [if_neg (by omega)] at hlow
    have h1 : Adds s (downM watchM n n k s).2 (if 2 * k + 2 < n then 2 else 1) (2 * hgt n k) (hgt n k) :=
      ⟨hlow.len, hlow.low, hhigh.high, hhigh.swaps, hlow.pushes, hlow.pops, hlow.all, hlow.trail⟩
    have h2 := adds_init n k (downM watchM n n k s).2 (by rw [h1.len]; exact hn) (by omega)
    exact (h1.trans h2).wider (by split <;> omega) (by omega) (by omega)
end Go.Proofs.Ytpglibneflefgaa
