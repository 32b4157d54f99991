/- The spec's functions on numbers: fewer, ranked, ascending. -/
import Derived.Test.YtjnlolidjbbddaaNums
import Derived.Test.YtjnlolidjbbddaaSorted
import Derived.Deep.RegionWith
namespace Go.Proofs.Ytjnlolidjbbddaa
set_option linter.unusedVariables false
open Go.RowKit

def ltC (l : List Int) (v : Int) : Nat := l.countP fun y => decide (y < v)
def leC (l : List Int) (v : Int) : Nat := l.countP fun y => decide (y ≤ v)
theorem ltC_le (l : List Int) (v : Int) : ltC l v ≤ l.length := List.countP_le_length
theorem leC_le (l : List Int) (v : Int) : leC l v ≤ l.length := List.countP_le_length
theorem ltC_take (l : List Int) (v : Int) (k : Nat) (h : k < l.length) : ltC (l.take (k + 1)) v = ltC (l.take k) v + if l[k] < v then 1 else 0 := by
  unfold ltC
  rw [List.take_succ_eq_append_getElem h, List.countP_append]
  simp [List.countP_cons]
theorem leC_take (l : List Int) (v : Int) (k : Nat) (h : k < l.length) : leC (l.take (k + 1)) v = leC (l.take k) v + if l[k] ≤ v then 1 else 0 := by
  unfold leC
  rw [List.take_succ_eq_append_getElem h, List.countP_append]
  simp [List.countP_cons]

section
variable {s : List Int}
theorem sorted_get (h : s.Pairwise (· ≤ ·)) {i j : Nat} (hj : j < s.length) (hij : i ≤ j) : s[i]'(by omega) ≤ s[j] := by
  rcases Nat.lt_or_eq_of_le hij with h1 | rfl
  · exact List.pairwise_iff_getElem.1 h i j (by omega) hj h1
  · exact Int.le_refl _
theorem countP_low (q : Int → Bool) (p : Nat) (h : ∀ j (hj : j < s.length), p ≤ j → q s[j] = false) : s.countP q ≤ p := by
  rw [← List.take_append_drop p s, List.countP_append]
  have h1 : (s.drop p).countP q = 0 := by
    rw [List.countP_eq_zero]
    intro x hx
    obtain ⟨j, hj, rfl⟩ := List.getElem_of_mem hx
    rw [List.getElem_drop, h (p + j) (by simp at hj; omega) (by omega)]
    simp
  have h2 : (s.take p).countP q ≤ p := Nat.le_trans List.countP_le_length (List.length_take_le _ _)
  omega
theorem countP_high (q : Int → Bool) (p : Nat) (hp : p < s.length) (h : ∀ j (hj : j < s.length), j ≤ p → q s[j] = true) : p < s.countP q := by
  rw [← List.take_append_drop (p + 1) s, List.countP_append]
  have h1 : (s.take (p + 1)).countP q = p + 1 := by
    rw [List.countP_eq_length.2 ?_, List.length_take]
    · omega
    · intro x hx
      obtain ⟨j, hj, rfl⟩ := List.getElem_of_mem hx
      rw [List.getElem_take]
      exact h j (by simp at hj; omega) (by simp at hj; omega)
  omega
theorem rank_is (h : s.Pairwise (· ≤ ·)) {p : Nat} (hp : p < s.length) : ltC s s[p] ≤ p ∧ p < leC s s[p] := by
  refine ⟨countP_low _ p fun j hj hpj => ?_, countP_high _ p hp fun j hj hjp => ?_⟩
  · have := sorted_get h hj hpj
    simp; omega
  · have := sorted_get h hp hjp
    simp; omega
theorem rank_only (h : s.Pairwise (· ≤ ·)) {p : Nat} (hp : p < s.length) {v : Int} (h1 : ltC s v ≤ p) (h2 : p < leC s v) : v = s[p] := by
  rcases Int.lt_trichotomy v s[p] with e | e | e
  · have : leC s v ≤ p := countP_low _ p fun j hj hpj => by
      have := sorted_get h hj hpj
      simp; omega
    omega
  · exact e
  · have : p < ltC s v := countP_high _ p hp fun j hj hjp => by
      have := sorted_get h hp hjp
      simp; omega
    omega
end
theorem ltC_perm {a b : List Int} (h : a.Perm b) (v : Int) : ltC a v = ltC b v := h.countP_eq _
theorem leC_perm {a b : List Int} (h : a.Perm b) (v : Int) : leC a v = leC b v := h.countP_eq _
/-- The number at a place of the sorted list. -/
def rankF (l : List Int) (p : Nat) : Int := (sortF ilt 0 l).getD p 0
theorem rankF_get (l : List Int) {p : Nat} (hp : p < l.length) : rankF l p = (sortF ilt 0 l)[p]'(by rw [sortF_length]; exact hp) := by
  unfold rankF
  rw [List.getD_eq_getElem?_getD, List.getElem?_eq_getElem (by rw [sortF_length]; exact hp)]; rfl
theorem rankF_only (l : List Int) {p : Nat} (hp : p < l.length) {v : Int} (h1 : ltC l v ≤ p) (h2 : p < leC l v) : v = rankF l p := by
  rw [rankF_get l hp]
  exact rank_only (sortI_le l) (by rw [sortF_length]; exact hp) (by rw [ltC_perm (sortF_perm 0 ilt l)]; exact h1) (by rw [leC_perm (sortF_perm 0 ilt l)]; exact h2)
theorem rankF_there (l : List Int) {p : Nat} (hp : p < l.length) : ∃ k, ∃ h : k < l.length, ltC l l[k] ≤ p ∧ p < leC l l[k] := by
  have hp' : p < (sortF ilt 0 l).length := by rw [sortF_length]; exact hp
  have hm : (sortF ilt 0 l)[p] ∈ l := (sortF_perm 0 ilt l).mem_iff.1 (List.getElem_mem hp')
  obtain ⟨k, hk, e⟩ := List.getElem_of_mem hm
  have := rank_is (sortI_le l) hp'
  rw [ltC_perm (sortF_perm 0 ilt l), leC_perm (sortF_perm 0 ilt l), ← e] at this
  exact ⟨k, hk, this⟩

set_option maxHeartbeats 800000 in
theorem fewer_any (A : Option Addr) (c : Nat) (l : List Int) (v : Int) (w : World) (B : Nat) (hs : Sees w B 1 A l.length (l.map (Value.int .i64))) (hn : l.length < 4611686018427387904) :
    Calls Try.prog 18 #[.slice A l.length c, .int .i64 v] w fun e w' => e = .returned (.tuple #[.int .i64 (ltC l v : Nat), .int .i64 (leC l v : Nat)]) ∧ w = w' := by
  have HS := Lib.hid hs
  clear hs
  go_enter Try.func18, Try.ntmps18
  go_wp2
  go_loopg [6, 7, 12] l.length (fun m a b i wr => ∃ (k : Nat), i = .int .i64 k ∧ a = .int .i64 (ltC (l.take k) v : Nat) ∧ b = .int .i64 (leC (l.take k) v : Nat) ∧ k + m = l.length ∧ wr = w)
  case atStart => exact ⟨0, rfl, rfl, rfl, by omega, rfl⟩
  case round =>
    obtain ⟨k, rfl, rfl, rfl, hk, rfl⟩ := hrel
    by_cases hlt : k < l.length
    · obtain ⟨b, off, rfl, hbw, hc⟩ := HS.out.2 (by omega)
      have c0 := hc k _ (nums_at l k hlt)
      clear hc
      have h1 := ltC_take l v k hlt
      have h2 := leC_take l v k hlt
      have b1 := ltC_le (l.take k) v
      have b2 := leC_le (l.take k) v
      have b3 : (l.take k).length ≤ k := List.length_take_le _ _
      generalize l[k] = y at *
      generalize ltC (l.take k) v = n1 at *
      generalize leC (l.take k) v = n2 at *
      have hk' := Lib.hid hk
      clear hk
      have b1' : n1 ≤ k := Nat.le_trans b1 b3
      have b2' : n2 ≤ k := Nat.le_trans b2 b3
      clear b1 b2 b3
      rcases Int.lt_trichotomy y v with e | e | e
      · have H1 := Lib.hid (show ltC (l.take (k + 1)) v = n1 + 1 by rw [h1, if_pos e])
        have H2 := Lib.hid (show leC (l.take (k + 1)) v = n2 + 1 by rw [h2, if_pos (by omega)])
        have t1 : decide (y < v) = true := decide_eq_true e
        have t2 : decide (y ≤ v) = true := decide_eq_true (by omega)
        clear h1 h2
        go_wp2
        go_roundg (l.length - (k + 1))
        case measure => have := hk'.out; omega
        case rel => exact ⟨k + 1, by go_num, by rw [H1.out]; go_num, by rw [H2.out]; go_num, by omega, rfl⟩
      · have H1 := Lib.hid (show ltC (l.take (k + 1)) v = n1 by rw [h1, if_neg (by omega)]; rfl)
        have H2 := Lib.hid (show leC (l.take (k + 1)) v = n2 + 1 by rw [h2, if_pos (by omega)])
        have t1 : decide (y < v) = false := decide_eq_false (by omega)
        have t2 : decide (y ≤ v) = true := decide_eq_true (by omega)
        clear h1 h2
        have e' := Lib.hid e
        clear e
        go_wp2
        go_roundg (l.length - (k + 1))
        case measure => have := hk'.out; omega
        case rel => exact ⟨k + 1, by go_num, by rw [H1.out], by rw [H2.out]; go_num, by omega, rfl⟩
      · have H1 := Lib.hid (show ltC (l.take (k + 1)) v = n1 by rw [h1, if_neg (by omega)]; rfl)
        have H2 := Lib.hid (show leC (l.take (k + 1)) v = n2 by rw [h2, if_neg (by omega)]; rfl)
        have t1 : decide (y < v) = false := decide_eq_false (by omega)
        have t2 : decide (y ≤ v) = false := decide_eq_false (by omega)
        clear h1 h2
        go_wp2
        go_roundg (l.length - (k + 1))
        case measure => have := hk'.out; omega
        case rel => exact ⟨k + 1, by go_num, by rw [H1.out], by rw [H2.out], by omega, rfl⟩
    · obtain rfl : k = l.length := by omega
      rw [List.take_length]
      go_wp2
      exact bodyPost_ret (v := .tuple #[.int .i64 (ltC l v : Nat), .int .i64 (leC l v : Nat)]) (by simp [results, Try.results18, go_sem]) rfl ⟨rfl, rfl⟩

set_option maxHeartbeats 800000 in
theorem ranked_any (A : Option Addr) (c : Nat) (l : List Int) (p : Nat) (w : World) (B : Nat) (hs : Sees w B 1 A l.length (l.map (Value.int .i64))) (hp : p < l.length) (hn : l.length < 4611686018427387904) :
    Calls Try.prog 16 #[.slice A l.length c, .int .i64 p] w fun e w' => e = .returned (.int .i64 (rankF l p)) ∧ w = w' := by
  have HS := Lib.hid hs
  have HO := Lib.hid (show ∀ v, ltC l v ≤ p → p < leC l v → v = rankF l p from fun v h1 h2 => rankF_only l hp h1 h2)
  have HT := Lib.hid (rankF_there l hp)
  clear hs
  go_enter Try.func16, Try.ntmps16
  go_wp2
  go_loopg [11] l.length (fun m i wr => ∃ (k : Nat), i = .int .i64 k ∧ k + m = l.length ∧ Hid (∀ j (h : j < l.length), j < k → ¬ (ltC l l[j] ≤ p ∧ p < leC l l[j])) ∧ wr = w)
  case atStart => exact ⟨0, rfl, by omega, fun j _ h => by omega, rfl⟩
  case round =>
    obtain ⟨k, rfl, hk, HN, rfl⟩ := hrel
    by_cases hlt : k < l.length
    · obtain ⟨b, off, rfl, hbw, hc⟩ := HS.out.2 (by omega)
      have c0 := hc k _ (nums_at l k hlt)
      clear hc
      obtain ⟨y, hy⟩ : ∃ y, l[k] = y := ⟨_, rfl⟩
      rw [hy] at c0
      have HY := Lib.hid hy
      clear hy
      have b1 := ltC_le l y
      have b2 := leC_le l y
      have HF := Lib.hid (fewer_any (some ⟨b, off, none⟩) c l y wr B HS.out hn)
      have hno : ¬ (ltC l y ≤ p ∧ p < leC l y) → Hid (∀ j (h : j < l.length), j < k + 1 → ¬ (ltC l l[j] ≤ p ∧ p < leC l l[j])) := fun hq => Lib.hid fun j h h2 => by
        by_cases e : j = k
        · subst e; rw [HY.out]; exact hq
        · exact HN.out j h (by omega)
      have hyes := fun h1 h2 => HO.out y h1 h2
      have HNO := Lib.hid hno
      have HYE := Lib.hid hyes
      clear hno hyes
      generalize ltC l y = n1 at *
      generalize leC l y = n2 at *
      have hk' := Lib.hid hk
      clear hk
      by_cases h1 : n1 ≤ p
      · have t1 : decide ((n1 : Int) ≤ (p : Int)) = true := decide_eq_true (by omega)
        by_cases h2 : p < n2
        · have t2 : decide ((p : Int) < (n2 : Int)) = true := decide_eq_true (by omega)
          have HE := Lib.hid (HYE.out h1 h2)
          go_wp2_with (go_at_call 18
                       refine HF.out.mono ?_
                       rintro e w' ⟨rfl, rfl⟩)
          go_ret
          exact ⟨by rw [← HE.out]; rfl, rfl⟩
        · have t2 : decide ((p : Int) < (n2 : Int)) = false := decide_eq_false (by omega)
          have HN' := HNO.out (fun h => h2 h.2)
          go_wp2_with (go_at_call 18
                       refine HF.out.mono ?_
                       rintro e w' ⟨rfl, rfl⟩)
          go_roundg (l.length - (k + 1))
          case measure => have := hk'.out; omega
          case rel => exact ⟨k + 1, by go_num, by omega, HN', rfl⟩
      · have t1 : decide ((n1 : Int) ≤ (p : Int)) = false := decide_eq_false (by omega)
        have HN' := HNO.out (fun h => h1 h.1)
        go_wp2_with (go_at_call 18
                     refine HF.out.mono ?_
                     rintro e w' ⟨rfl, rfl⟩)
        go_roundg (l.length - (k + 1))
        case measure => have := hk'.out; omega
        case rel => exact ⟨k + 1, by go_num, by omega, HN', rfl⟩
    · obtain ⟨j, hj, hjj⟩ := HT.out
      exact absurd hjj (HN.out j hj (by omega))
end Go.Proofs.Ytjnlolidjbbddaa
