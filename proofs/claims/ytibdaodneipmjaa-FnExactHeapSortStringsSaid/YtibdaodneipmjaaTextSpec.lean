/- spec.HeapSortStrings: the string of each rank. -/
import Derived.Test.YtibdaodneipmjaaStrs
import Derived.Deep.RegionWith
namespace Go.Proofs.Ytibdaodneipmjaa
set_option linter.unusedVariables false
open Go.RowKit

def ltT (l : List ByteArray) (v : ByteArray) : Nat := l.countP fun y => tlt y v
def leT (l : List ByteArray) (v : ByteArray) : Nat := l.countP fun y => !tlt v y
theorem ltT_le (l : List ByteArray) (v : ByteArray) : ltT l v ≤ l.length := List.countP_le_length
theorem leT_le (l : List ByteArray) (v : ByteArray) : leT l v ≤ l.length := List.countP_le_length
theorem ltT_take (l : List ByteArray) (v : ByteArray) (k : Nat) (h : k < l.length) : ltT (l.take (k + 1)) v = ltT (l.take k) v + if tlt l[k] v then 1 else 0 := by
  unfold ltT
  rw [List.take_succ_eq_append_getElem h, List.countP_append]
  simp [List.countP_cons]
theorem leT_take (l : List ByteArray) (v : ByteArray) (k : Nat) (h : k < l.length) : leT (l.take (k + 1)) v = leT (l.take k) v + if tlt v l[k] then 0 else 1 := by
  unfold leT
  rw [List.take_succ_eq_append_getElem h, List.countP_append]
  cases h' : tlt v l[k] <;> simp [List.countP_cons, h']

theorem beq_lt (y v : ByteArray) : (y.toList == v.toList) = (!tlt y v && !tlt v y) := by
  rw [beq_text]
  by_cases h : y = v
  · subst h
    have := (tlt_weak fun _ => True).refl y trivial
    simp [this]
  · rw [decide_eq_false h]
    cases e1 : tlt y v
    · cases e2 : tlt v y
      · exact absurd (tlt_anti e1 e2) h
      · rfl
    · rfl

section
variable {s : List ByteArray}
theorem sortedT_get (h : s.Pairwise fun a b => tlt b a = false) {i j : Nat} (hj : j < s.length) (hij : i ≤ j) : tlt s[j] (s[i]'(by omega)) = false := by
  rcases Nat.lt_or_eq_of_le hij with h1 | rfl
  · exact List.pairwise_iff_getElem.1 h i j (by omega) hj h1
  · exact (tlt_weak fun _ => True).refl _ trivial
theorem countT_low (q : ByteArray → Bool) (p : Nat) (h : ∀ j (hj : j < s.length), p ≤ j → q s[j] = false) : s.countP q ≤ p := by
  rw [← List.take_append_drop p s, List.countP_append]
  have h1 : (s.drop p).countP q = 0 := by
    rw [List.countP_eq_zero]
    intro x hx
    obtain ⟨j, hj, rfl⟩ := List.getElem_of_mem hx
    rw [List.getElem_drop, h (p + j) (by simp at hj; omega) (by omega)]
    simp
  have h2 : (s.take p).countP q ≤ p := Nat.le_trans List.countP_le_length (List.length_take_le _ _)
  omega
theorem countT_high (q : ByteArray → Bool) (p : Nat) (hp : p < s.length) (h : ∀ j (hj : j < s.length), j ≤ p → q s[j] = true) : p < s.countP q := by
  rw [← List.take_append_drop (p + 1) s, List.countP_append]
  have h1 : (s.take (p + 1)).countP q = p + 1 := by
    rw [List.countP_eq_length.2 ?_, List.length_take]
    · omega
    · intro x hx
      obtain ⟨j, hj, rfl⟩ := List.getElem_of_mem hx
      rw [List.getElem_take]
      exact h j (by simp at hj; omega) (by simp at hj; omega)
  omega
theorem rankT_is (h : s.Pairwise fun a b => tlt b a = false) {p : Nat} (hp : p < s.length) : ltT s s[p] ≤ p ∧ p < leT s s[p] :=
  ⟨countT_low _ p fun j hj hpj => sortedT_get h hj hpj, countT_high _ p hp fun j hj hjp => by rw [sortedT_get h hp hjp]; rfl⟩
theorem rankT_only (h : s.Pairwise fun a b => tlt b a = false) {p : Nat} (hp : p < s.length) {v : ByteArray} (h1 : ltT s v ≤ p) (h2 : p < leT s v) : v = s[p] := by
  have T := (tlt_weak fun _ => True).trans
  cases e1 : tlt v s[p] with
  | true =>
    have : leT s v ≤ p := countT_low _ p fun j hj hpj => by
      cases e : tlt v s[j] with
      | true => rfl
      | false =>
        have := T s[p] s[j] v trivial trivial trivial (sortedT_get h hj hpj) e
        rw [e1] at this
        cases this
    omega
  | false =>
    cases e2 : tlt s[p] v with
    | true =>
      have : p < ltT s v := countT_high _ p hp fun j hj hjp => by
        cases e : tlt s[j] v with
        | true => rfl
        | false =>
          have := T v s[j] s[p] trivial trivial trivial e (sortedT_get h hp hjp)
          rw [e2] at this
          cases this
      omega
    | false => exact tlt_anti e1 e2
end
theorem ltT_perm {a b : List ByteArray} (h : a.Perm b) (v : ByteArray) : ltT a v = ltT b v := h.countP_eq _
theorem leT_perm {a b : List ByteArray} (h : a.Perm b) (v : ByteArray) : leT a v = leT b v := h.countP_eq _
abbrev sortT (l : List ByteArray) : List ByteArray := sortF tlt ByteArray.empty l
theorem sortT_up (l : List ByteArray) : (sortT l).Pairwise fun a b => tlt b a = false := sortF_sorted ByteArray.empty (tlt_weak fun _ => True) l fun _ _ => trivial
theorem sortT_only (l : List ByteArray) {p : Nat} (hp : p < (sortT l).length) {v : ByteArray} (h1 : ltT l v ≤ p) (h2 : p < leT l v) : v = (sortT l)[p] :=
  rankT_only (sortT_up l) hp (by rw [ltT_perm (sortF_perm _ tlt l)]; exact h1) (by rw [leT_perm (sortF_perm _ tlt l)]; exact h2)
theorem sortT_there (l : List ByteArray) {p : Nat} (hp : p < (sortT l).length) : ∃ k, ∃ h : k < l.length, ltT l l[k] ≤ p ∧ p < leT l l[k] := by
  have hm : (sortT l)[p] ∈ l := (sortF_perm _ tlt l).mem_iff.1 (List.getElem_mem hp)
  obtain ⟨k, hk, e⟩ := List.getElem_of_mem hm
  have := rankT_is (sortT_up l) hp
  rw [ltT_perm (sortF_perm _ tlt l), leT_perm (sortF_perm _ tlt l), ← e] at this
  exact ⟨k, hk, this⟩

set_option maxHeartbeats 4000000 in
theorem specSortTexts_any (A : Option Addr) (c : Nat) (l : List ByteArray) (w : World) (hs : Sees w w.heap.size 1 A l.length (l.map Value.string)) (hn : l.length * 16 ≤ 140737488355328) :
    Calls Try.prog 31 #[.slice A l.length c] w (NewStrs w (sortT l)) := by
  obtain ⟨i0, hi, hz0, hz1, hz2⟩ := info_parts info_text
  have HS := Lib.hid hs
  clear hs
  obtain ⟨Y, hY⟩ : ∃ Y, sortT l = Y := ⟨_, rfl⟩
  have NY : Y.length = l.length := by rw [← hY]; exact sortF_length _ _ _
  have HO := Lib.hid (show ∀ p (hp : p < Y.length) v, ltT l v ≤ p → p < leT l v → v = Y[p] by rw [← hY]; exact fun p hp v h1 h2 => sortT_only l hp h1 h2)
  have HT := Lib.hid (show ∀ p (hp : p < Y.length), ∃ k, ∃ h : k < l.length, ltT l l[k] ≤ p ∧ p < leT l l[k] by rw [← hY]; exact fun p hp => sortT_there l hp)
  rw [hY]
  have NYa := Nat.le_of_eq NY
  have NYb := Nat.le_of_eq NY.symm
  have HNY := Lib.hid NY
  clear hY NY
  go_enter Try.func31, Try.ntmps31
  go_wp2
  go_loopg [3, 13] l.length (fun m v i wr => ∃ (k : Nat) (A' : Option Addr) (c' : Nat), i = .int .i64 k ∧ k + m = l.length ∧ v = .slice A' k c' ∧ Hid (wr.ownsRow w.heap.size 9 1 (.slice A' k c') k ((Y.take k).map Value.string)) ∧ Hid (Below w.heap.size w wr))
  case atStart => exact ⟨0, none, 0, rfl, by omega, rfl, World.ownsRow_nil _ _ _ _, Below.refl _ _⟩
  case round =>
    obtain ⟨k, A', c', rfl, hk, rfl, HOW, HB⟩ := hrel
    by_cases hlt : k < l.length
    · have hkY : k < Y.length := by omega
      have HOk := Lib.hid (HO.out k hkY)
      have HTk := Lib.hid (HT.out k hkY)
      have htk := Lib.hid (show (Y.take (k + 1)).map Value.string = (Y.take k).map Value.string ++ [.string Y[k]] by rw [List.take_succ_eq_append_getElem hkY, List.map_append]; rfl)
      generalize Y[k] = yk at *
      obtain ⟨w2, rfl⟩ : ∃ w2, w2 = wr := ⟨wr, rfl⟩
      obtain ⟨b, off, rfl, hbw, hc⟩ := HS.out.cellAt (by omega) HB.out
      have HC := Lib.hid hc
      have hk' := Lib.hid hk
      have hbw' : b < w2.heap.size := Nat.lt_of_lt_of_le hbw HB.out.size
      have hkl : k + 1 ≤ l.length := hlt
      clear hc hk
      go_wp2_with fail
      go_loopg [3, 18] l.length (fun m v i wr => ∃ (k2 : Nat), i = .int .i64 k2 ∧ k2 + m = l.length ∧ v = .slice A' k c' ∧ Hid (∀ j (h : j < l.length), j < k2 → ¬ (ltT l l[j] ≤ k ∧ k < leT l l[j])) ∧ w2 = wr)
      case atStart => exact ⟨0, rfl, by omega, rfl, fun j _ h => by omega, rfl⟩
      case round =>
        obtain ⟨k2, rfl, hk2, rfl, HN, rfl⟩ := hrel
        by_cases hlt2 : k2 < l.length
        · have c0 := HC.out k2 _ (strs_at l k2 hlt2)
          obtain ⟨v, hv⟩ : ∃ v, l[k2] = v := ⟨_, rfl⟩
          rw [hv] at c0
          have HV := Lib.hid hv
          have hk2' := Lib.hid hk2
          have hkl2 : k2 + 1 ≤ l.length := hlt2
          clear hv hk2
          go_wp2_with fail
          go_loopg [7, 8, 24] l.length (fun m a b3 i wr => ∃ (j : Nat), i = .int .i64 j ∧ a = .int .i64 (ltT (l.take j) v : Nat) ∧ b3 = .int .i64 (leT (l.take j) v : Nat) ∧ j + m = l.length ∧ w2 = wr)
          case atStart => exact ⟨0, rfl, rfl, rfl, by omega, rfl⟩
          case round =>
            obtain ⟨j, rfl, rfl, rfl, hj, rfl⟩ := hrel
            by_cases hjl : j < l.length
            · have x0 := HC.out j _ (strs_at l j hjl)
              have h1 := ltT_take l v j hjl
              have h2 := leT_take l v j hjl
              have b1 : ltT (l.take j) v ≤ j := Nat.le_trans (ltT_le _ _) (List.length_take_le _ _)
              have b4 : leT (l.take j) v ≤ j := Nat.le_trans (leT_le _ _) (List.length_take_le _ _)
              generalize l[j] = y at *
              generalize ltT (l.take j) v = n1 at *
              generalize leT (l.take j) v = n2 at *
              have hj' := Lib.hid hj
              have hjl2 : j + 1 ≤ l.length := hjl
              clear hj
              have hE := beq_lt y v
              have hA := bl_asym y.toList v.toList
              cases e1 : tlt y v <;> cases e2 : tlt v y
              case true.true => exact absurd (hA e1) (by show ¬ tlt v y = false; rw [e2]; simp)
              all_goals
                clear hA
                have E3 : (y.toList == v.toList) = _ := hE
                rw [e1, e2] at E3
                simp only [Bool.not_true, Bool.not_false, Bool.and_true, Bool.and_false, Bool.and_self] at E3
                clear hE
                have E1 := (show Op.bytesLess y.toList v.toList = _ from e1)
                have E2 := (show Op.bytesLess v.toList y.toList = _ from e2)
                rw [e1] at h1
                rw [e2] at h2
                have H1 := Lib.hid h1
                have H2 := Lib.hid h2
                clear h1 h2 e1 e2
                go_wp2
                go_roundg (l.length - (j + 1))
                case measure => have := hj'.out; omega
                case rel => exact ⟨j + 1, by go_num, by rw [H1.out]; simp, by rw [H2.out]; simp, by omega, rfl⟩
            · obtain rfl : j = l.length := by omega
              rw [List.take_length]
              have b1 := ltT_le l v
              have b4 := leT_le l v
              have HYE := Lib.hid (HOk.out v)
              have HNO := Lib.hid (show ¬ (ltT l v ≤ k ∧ k < leT l v) → ∀ j (h : j < l.length), j < k2 + 1 → ¬ (ltT l l[j] ≤ k ∧ k < leT l l[j]) from fun hq j h h2 => by
                by_cases e : j = k2
                · subst e; rw [HV.out]; exact hq
                · exact HN.out j h (by omega))
              generalize ltT l v = n1 at *
              generalize leT l v = n2 at *
              by_cases h1 : n1 ≤ k
              · have t1 : decide ((n1 : Int) ≤ (k : Int)) = true := decide_eq_true (by omega)
                by_cases h2 : k < n2
                · have t2 : decide ((k : Int) < (n2 : Int)) = true := decide_eq_true (by omega)
                  have he := HYE.out h1 h2
                  subst he
                  go_wp2_with (
                    at_builtin
                    (refine wpList_append_row _ rfl (.tmp 47) (.tmp 49) 29 rfl w.heap.size 9 i0 _ 1 16 Try.underlying29 hi hz0 hz1 hz2 rfl (by decide) (.slice A' k c') k ((Y.take k).map Value.string) rfl ?_ (w2.heap.size + 1) (some ⟨w2.heap.size, 0, none⟩) 1 1 [.string v] rfl ?_ (one_text _) ?_ ?_ ?_ ?_)
                    · exact HOW.out.alloc _
                    · exact sees_new rfl
                    · unfold maxLen; omega
                    · omega
                    · have := HB.out.size; simp; omega
                    intro A4 c4 w4 hown4 hg4 _
                    have HO4 := Lib.hid hown4
                    have HB4 := Lib.hid ((HB.out.alloc HB.out.size _).grown hg4 (by have := HB.out.size; simp; omega) (fun g hgg => (HOW.out.lt g hgg).1))
                    clear hown4 hg4)
                  go_roundg (l.length - (k + 1))
                  case measure => have := hk'.out; omega
                  case rel => exact ⟨k + 1, A4, c4, by go_num, by omega, rfl, Lib.hid (by rw [htk.out]; exact HO4.out), HB4⟩
                · have t2 : decide ((k : Int) < (n2 : Int)) = false := decide_eq_false (by omega)
                  have HN' := Lib.hid (HNO.out (fun h => h2 h.2))
                  go_wp2
                  go_roundg (l.length - (k2 + 1))
                  case measure => have := hk2'.out; omega
                  case rel => exact ⟨k2 + 1, by go_num, by omega, rfl, HN', rfl⟩
              · have t1 : decide ((n1 : Int) ≤ (k : Int)) = false := decide_eq_false (by omega)
                have HN' := Lib.hid (HNO.out (fun h => h1 h.1))
                go_wp2
                go_roundg (l.length - (k2 + 1))
                case measure => have := hk2'.out; omega
                case rel => exact ⟨k2 + 1, by go_num, by omega, rfl, HN', rfl⟩
        · obtain ⟨j, hj, hjj⟩ := HTk.out
          exact absurd hjj (HN.out j hj (by omega))
    · obtain rfl : k = l.length := by omega
      go_wp2
      go_ret
      refine ⟨A', c', by rw [HNY.out]; rfl, ?_, HB.out⟩
      have := HOW.out
      rw [List.take_of_length_le (by omega)] at this
      rw [HNY.out]
      exact this
end Go.Proofs.Ytibdaodneipmjaa
