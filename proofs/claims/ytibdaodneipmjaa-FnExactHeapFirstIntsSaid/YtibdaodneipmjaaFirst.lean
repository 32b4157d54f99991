/- HeapFirstInts: Init, then pops till there are enough, or none is left. -/
import Derived.Test.YtibdaodneipmjaaInts
import Derived.Deep.RegionWith
namespace Go.Proofs.Ytibdaodneipmjaa
set_option linter.unusedVariables false
open Go.RowKit

theorem popsF_pre (lt : Int → Int → Bool) (m : Nat) (li : List Int) : ∀ n, m ≤ n → popsF lt 0 m li = (popsF lt 0 n li).take m := by
  intro n h
  induction n with
  | zero =>
    obtain rfl : m = 0 := by omega
    simp [popsF]
  | succ n ih =>
    by_cases e : m = n + 1
    · subst e; rw [List.take_of_length_le (by rw [popsF_length]; exact Nat.le_refl _)]
    · rw [ih (by omega), popsF_succ, List.take_append_of_le_length (by rw [popsF_length]; omega)]
def firstF (k : Int) (l : List Int) : List Int := (sortF ilt 0 l).take k.toNat
theorem firstF_pops (l : List Int) (m : Nat) (k : Int) (h : min k.toNat l.length = m) : popsF ilt 0 m (initM (listM ilt) l.length (l.length / 2) l) = firstF k l := by
  subst h
  unfold firstF
  have e : sortF ilt 0 l = popsF ilt 0 l.length (initM (listM ilt) l.length (l.length / 2) l) := rfl
  rw [e, popsF_pre ilt (min k.toNat l.length) _ l.length (Nat.min_le_right _ _)]
  rcases Nat.le_total k.toNat l.length with h | h
  · rw [Nat.min_eq_left h]
  · rw [Nat.min_eq_right h, List.take_of_length_le (by rw [popsF_length]; exact Nat.le_refl _), List.take_of_length_le (by rw [popsF_length]; exact h)]
theorem firstF_length (k : Int) (l : List Int) : (firstF k l).length = min k.toNat l.length := by
  unfold firstF; rw [List.length_take, sortF_length]

set_option maxHeartbeats 800000 in
theorem firstInts_any (A : Option Addr) (c : Nat) (l : List Int) (kk : Int) (w : World) (hs : Sees w w.heap.size 1 A l.length (l.map (Value.int .i64))) (hn : l.length * 8 ≤ 140737488355328) :
    Calls Try.prog 19 #[.slice A l.length c, .int .i64 kk] w (NewNums w (firstF kk l)) := by
  obtain ⟨i0, hi, hz0, hz1, hz2⟩ := info_parts info_int
  have HS := Lib.hid hs
  clear hs
  go_enter Try.func19, Try.ntmps19
  go_wp2_with (
    at_builtin
    (refine wpList_append_row _ rfl (.const (.slice none 0 0)) (.tmp 7) 22 rfl w.heap.size 3 i0 _ 1 8 Try.underlying22 hi hz0 hz1 hz2 rfl (by decide) (.slice none 0 0) 0 [] rfl (World.ownsRow_nil _ _ _ _) w.heap.size A l.length c (l.map (Value.int .i64)) rfl HS.out (nums_cells l) ?_ ?_ (Nat.le_refl _) ?_)
    · unfold maxLen; omega
    · omega
    intro A1 c1 w1 ho1 hg1 _
    simp only [Nat.zero_add, List.nil_append] at ho1 ⊢
    have hb1 := (Below.refl w.heap.size w).grown hg1 (Nat.le_refl _) (by simp [Value.ownBlock])
    clear hg1)
  have HH := Lib.hid (heapAt_new (TH := 34) (ex := []) ho1 hb1 (Nat.le_refl _))
  have HB1 := Lib.hid hb1
  clear ho1 hb1
  have HIM := Lib.hid (ints_impl (· < w.heap.size) w w1.heap.size (3 * l.length * (l.length / 2)) l.length (by omega))
  go_wp2_with fail
  refine (init_any HIM.out l _ l.length ⟨HH.out, Nat.le_refl _⟩ rfl (by omega) (by show 0 + _ ≤ _; omega)).mono ?_
  rintro e w0 ⟨rfl, hR, _⟩
  have hsf := firstF_pops l
  have hnl : (initM (listM ilt) l.length (l.length / 2) l).length = l.length := initM_length ilt l
  generalize initM (listM ilt) l.length (l.length / 2) l = li at *
  have HL := Lib.hid hnl
  have HSF := Lib.hid hsf
  have HHI := Lib.hid hR
  have HBI := Lib.hid (hR.kept.below (B := w.heap.size) fun _ h => h)
  clear hR hnl HH HB1 hsf
  go_wp2_with fail
  go_loopg [6] (l.length + 1) (fun m v wr => ∃ (k : Nat) (A' : Option Addr) (c' : Nat), k + m = l.length + 1 ∧ (k : Int) ≤ max kk 0 ∧ k ≤ l.length ∧ v = .slice A' k c' ∧ Hid (wr.ownsRow w.heap.size 3 1 (.slice A' k c') k ((popsF ilt 0 k li).map (Value.int .i64))) ∧ Hid (Below w.heap.size w wr) ∧ Hid (IntsAt 34 [] (fun b => b < w.heap.size ∨ (Value.slice A' k c').ownBlock = some b) wr w1.heap.size (leftF ilt k li) wr))
  case atStart =>
    exact ⟨0, none, 0, by omega, by omega, by omega, rfl, World.ownsRow_nil _ _ _ _, HBI.out, heap_start_beside HHI.out HBI.out.size⟩
  case round =>
    obtain ⟨k, A', c', hk, hkk, hkl0, rfl, HO, HB, HI⟩ := hrel
    obtain ⟨Ah, ch, hbk, _, _⟩ := HI.out.hdr
    have hlen : (leftF ilt k li).length = l.length - k := by rw [leftF_length, HL.out]
    rw [hlen] at hbk
    have hh : wr.cell? ⟨w1.heap.size, 0, none⟩ = some (.slice Ah (l.length - k) ch) := hbk.cell 0
    clear hbk hlen
    by_cases hlt : (k : Int) < kk
    · by_cases hle : k < l.length
      · have hps := popsF_succ ilt 0 k li
        have hls := leftF_succ ilt k li
        have hpop := ints_heapPop _ wr w1.heap.size (leftF ilt k li) wr HI.out (by rw [leftF_length, HL.out]; omega) (by rw [leftF_length, HL.out]; omega)
        rw [← hls] at hpop
        obtain ⟨xk, hX⟩ : ∃ x, popTop ilt 0 (leftF ilt k li) = x := ⟨_, rfl⟩
        rw [hX] at hpop hps
        have HPS := Lib.hid hps
        have HPOP := Lib.hid hpop
        clear hps hls hpop hX
        have hta := assert_ints (.int .i64 xk)
        have hkl : k + 1 ≤ l.length := hle
        have hk' := Lib.hid hk
        clear hk
        have t1 : decide ((k : Int) < kk) = true := decide_eq_true hlt
        have t2 : decide ((0 : Int) < ((l.length - k : Nat) : Int)) = true := decide_eq_true (by omega)
        go_wp2_with (first
          | (go_at_call 38
             refine HPOP.out.mono ?_
             rintro e w2 ⟨rfl, hI2⟩
             have HI2 := Lib.hid hI2
             have HO2 := Lib.hid (own_kept HO.out hI2.kept (fun g hg => .inr hg))
             have HB2 := Lib.hid (HB.out.trans (hI2.kept.below (fun b hb => .inl hb)))
             clear hI2)
          | (at_builtin
             (refine wpList_append_row _ rfl (.tmp 20) (.tmp 24) 22 rfl w.heap.size 3 i0 _ 1 8 Try.underlying22 hi hz0 hz1 hz2 rfl (by decide) (.slice A' k c') k ((popsF ilt 0 k li).map (Value.int .i64)) rfl ?_ (w2.heap.size + 1) (some ⟨w2.heap.size, 0, none⟩) 1 1 [(.int .i64 xk)] rfl ?_ (one_cell _) ?_ ?_ ?_ ?_)
             · exact HO2.out.alloc _
             · exact sees_new rfl
             · unfold maxLen; omega
             · omega
             · have := HB2.out.size; simp; omega
             intro A3 c3 w3 hown hg hat
             have HO3 := Lib.hid hown
             have HB3 := Lib.hid ((HB2.out.alloc HB2.out.size _).grown hg (by have := HB2.out.size; simp; omega) (fun g hgg => (HO.out.lt g hgg).1))
             have HI3 := Lib.hid (heap_beside HI2.out (World.grownBy_alloc _ _ none) hg hat (own_lt hown) HB3.out.size)
             clear hown hg hat))
        go_roundg (l.length + 1 - (k + 1))
        case measure => have := hk'.out; omega
        case rel => exact ⟨k + 1, A3, c3, by omega, by omega, by omega, rfl, by rw [HPS.out, List.map_append]; exact HO3, HB3, HI3⟩
      · have t1 : decide ((k : Int) < kk) = true := decide_eq_true hlt
        have t2 : decide ((0 : Int) < ((l.length - k : Nat) : Int)) = false := decide_eq_false (by omega)
        have hmin : min kk.toNat l.length = k := by omega
        have hf := HSF.out k kk hmin
        have hlf := firstF_length kk l
        rw [hmin] at hlf
        have HF := Lib.hid hf
        have HLF := Lib.hid hlf
        clear hf hlf hmin
        go_wp2
        go_ret
        refine ⟨A', c', ?_, ?_, HB.out⟩
        · rw [HLF.out]; rfl
        · rw [HLF.out, ← HF.out]; exact HO.out
    · have t1 : decide ((k : Int) < kk) = false := decide_eq_false hlt
      have hmin : min kk.toNat l.length = k := by omega
      have hf := HSF.out k kk hmin
      have hlf := firstF_length kk l
      rw [hmin] at hlf
      have HF := Lib.hid hf
      have HLF := Lib.hid hlf
      clear hf hlf hmin
      go_wp2
      go_ret
      refine ⟨A', c', ?_, ?_, HB.out⟩
      · rw [HLF.out]; rfl
      · rw [HLF.out, ← HF.out]; exact HO.out
end Go.Proofs.Ytibdaodneipmjaa
