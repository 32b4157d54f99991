/- The relation of an Order: impl.before, laws.precedes. -/
import Derived.Test.YtgijkfkfifjokaaNums
namespace Go.Proofs.Ytgijkfkfifjokaa
set_option linter.unusedVariables false
open Go.RowKit

/-- What an order of a size and a table says of two numbers. -/
def bef (sz : Int) (bs : List Bool) (a b : Int) : Bool :=
  if a < 0 ∨ b < 0 ∨ sz ≤ a ∨ sz ≤ b ∨ (0 < a ∧ (bs.length : Int) / a < sz) ∨ (bs.length : Int) ≤ a * sz + b then false else bs.getD (a * sz + b).toNat false
theorem bef_no {sz : Int} {bs : List Bool} {a b : Int} (h : a < 0 ∨ b < 0 ∨ sz ≤ a ∨ sz ≤ b ∨ (0 < a ∧ (bs.length : Int) / a < sz) ∨ (bs.length : Int) ≤ a * sz + b) : bef sz bs a b = false := if_pos h
theorem bef_yes {sz : Int} {bs : List Bool} {a b : Int} (h : ¬ (a < 0 ∨ b < 0 ∨ sz ≤ a ∨ sz ≤ b ∨ (0 < a ∧ (bs.length : Int) / a < sz) ∨ (bs.length : Int) ≤ a * sz + b)) : bef sz bs a b = bs.getD (a * sz + b).toNat false := if_neg h
theorem mul_room {a sz n : Int} (ha : 0 < a) (hn : 0 ≤ n) (h : ¬ n / a < sz) : a * sz ≤ n := by
  have h1 : sz ≤ n / a := by omega
  have h2 : a * sz ≤ a * (n / a) := Int.mul_le_mul_of_nonneg_left h1 (by omega)
  have h3 : a * (n / a) ≤ n := Int.mul_ediv_self_le (by omega)
  omega
theorem wrap_in {n : Int} (h0 : -9223372036854775808 ≤ n) (h1 : n ≤ 9223372036854775807) : IntKind.i64.wrap n = n := by
  simp only [IntKind.wrap, IntKind.bits, IntKind.signed]
  simp
  split <;> omega
theorem bools_at (l : List Bool) (i : Nat) (h : i < l.length) : (l.map Value.bool)[i]? = some (.bool l[i]) := by simp [h]

set_option maxHeartbeats 1000000 in
theorem before_any (sz : Int) (Ab : Option Addr) (cb : Nat) (bs : List Bool) (a b : Int) (w : World) (B : Nat) (hs : Sees w B 1 Ab bs.length (bs.map Value.bool)) (hB : B ≤ w.heap.size) (hn : bs.length ≤ 140737488355328) (hwz : -9223372036854775808 ≤ sz ∧ sz ≤ 9223372036854775807) (hwa : -9223372036854775808 ≤ a ∧ a ≤ 9223372036854775807) (hwb : -9223372036854775808 ≤ b ∧ b ≤ 9223372036854775807) :
    Calls Try.prog 55 #[.agg #[.int .i64 sz, .slice Ab bs.length cb], .int .i64 a, .int .i64 b] w fun e w' => e = .returned (.bool (bef sz bs a b)) ∧ ∃ q, w' = (w.alloc (.cells #[.int .i64 sz, .slice Ab bs.length cb] 28)).drewN q := by
  have HS := Lib.hid hs
  clear hs
  by_cases h1 : a < 0
  · have t1 : decide (a < 0) = true := decide_eq_true h1
    have H := Lib.hid (bef_no (sz := sz) (bs := bs) (b := b) (.inl h1))
    go_enter Try.func55, Try.ntmps55
    go_wp2_with fail
    go_quiet (fail)
    go_wp2
    go_ret
    exact ⟨by rw [H.out]; rfl, _, rfl⟩
  have t1 : decide (a < 0) = false := decide_eq_false h1
  by_cases h2 : b < 0
  · have t2 : decide (b < 0) = true := decide_eq_true h2
    have H := Lib.hid (bef_no (sz := sz) (bs := bs) (a := a) (.inr (.inl h2)))
    go_enter Try.func55, Try.ntmps55
    go_wp2_with fail
    go_quiet (fail)
    go_wp2
    go_ret
    exact ⟨by rw [H.out]; rfl, _, rfl⟩
  have t2 : decide (b < 0) = false := decide_eq_false h2
  by_cases h3 : sz ≤ a
  · have t3 : decide (sz ≤ a) = true := decide_eq_true h3
    have H := Lib.hid (bef_no (bs := bs) (b := b) (.inr (.inr (.inl h3))))
    go_enter Try.func55, Try.ntmps55
    go_wp2_with fail
    go_quiet (fail)
    go_wp2
    go_ret
    exact ⟨by rw [H.out]; rfl, _, rfl⟩
  have t3 : decide (sz ≤ a) = false := decide_eq_false h3
  by_cases h4 : sz ≤ b
  · have t4 : decide (sz ≤ b) = true := decide_eq_true h4
    have H := Lib.hid (bef_no (bs := bs) (a := a) (.inr (.inr (.inr (.inl h4)))))
    go_enter Try.func55, Try.ntmps55
    go_wp2_with fail
    go_quiet (fail)
    go_wp2
    go_ret
    exact ⟨by rw [H.out]; rfl, _, rfl⟩
  have t4 : decide (sz ≤ b) = false := decide_eq_false h4
  by_cases h5 : a = 0
  · subst h5
    by_cases h6 : (bs.length : Int) ≤ b
    · have t6 : decide ((bs.length : Int) ≤ b) = true := decide_eq_true h6
      have H := Lib.hid (bef_no (sz := sz) (bs := bs) (a := 0) (b := b) (.inr (.inr (.inr (.inr (.inr (by rw [Int.zero_mul, Int.zero_add]; exact h6)))))))
      go_enter Try.func55, Try.ntmps55
      go_wp2_with fail
      go_quiet (fail)
      go_wp2
      go_ret
      exact ⟨by rw [H.out]; rfl, _, rfl⟩
    · have t6 : decide ((bs.length : Int) ≤ b) = false := decide_eq_false h6
      obtain ⟨j, hj⟩ : ∃ j : Nat, b = (j : Int) := ⟨(b).toNat, by omega⟩
      have hjl : j < bs.length := by omega
      have H := Lib.hid (show bef sz bs 0 b = bs[j] by rw [bef_yes (by rw [Int.zero_mul, Int.zero_add]; omega), show (0 * sz + b).toNat = j by rw [Int.zero_mul, Int.zero_add]; omega]; simp [hjl])
      obtain ⟨bb, off, rfl, hbw, hc⟩ := HS.out.2 (by omega)
      have c0 := hc j _ (bools_at bs j hjl)
      have hbw' : bb < w.heap.size := by omega
      generalize bs[j] = bj at *
      clear hc
      subst hj
      go_enter Try.func55, Try.ntmps55
      go_wp2_with fail
      go_quiet (fail)
      go_wp2
      go_ret
      exact ⟨by rw [H.out]; rfl, _, rfl⟩
  · have hpos : 0 < a := by omega
    have tp : decide (0 < a) = true := decide_eq_true hpos
    have hq0 : 0 ≤ (bs.length : Int) / a := Int.ediv_nonneg (by omega) (by omega)
    have hq1 : (bs.length : Int) / a ≤ (bs.length : Int) := Int.ediv_le_self _ (by omega)
    have hwr : IntKind.i64.wrap ((bs.length : Int) / a) = (bs.length : Int) / a := wrap_in (by omega) (by omega)
    by_cases h7 : (bs.length : Int) / a < sz
    · have t7 : decide ((bs.length : Int) / a < sz) = true := decide_eq_true h7
      have H := Lib.hid (bef_no (sz := sz) (bs := bs) (a := a) (b := b) (.inr (.inr (.inr (.inr (.inl ⟨hpos, h7⟩))))))
      go_enter Try.func55, Try.ntmps55
      go_wp2_with fail
      go_quiet (fail)
      go_wp2
      go_ret
      exact ⟨by rw [H.out]; rfl, _, rfl⟩
    · have t7 : decide ((bs.length : Int) / a < sz) = false := decide_eq_false h7
      have hm := mul_room hpos (by omega) h7
      have hm0 : sz ≤ a * sz := by
        have := Int.mul_le_mul_of_nonneg_right (show 1 ≤ a by omega) (show 0 ≤ sz by omega)
        rwa [Int.one_mul] at this
      have hwm : IntKind.i64.wrap (a * sz) = a * sz := wrap_in (by omega) (by omega)
      have hws : IntKind.i64.wrap (a * sz + b) = a * sz + b := wrap_in (by omega) (by omega)
      by_cases h8 : (bs.length : Int) ≤ a * sz + b
      · have t8 : decide ((bs.length : Int) ≤ a * sz + b) = true := decide_eq_true h8
        have H := Lib.hid (bef_no (sz := sz) (bs := bs) (a := a) (b := b) (.inr (.inr (.inr (.inr (.inr h8))))))
        go_enter Try.func55, Try.ntmps55
        go_wp2_with fail
        go_quiet (fail)
        go_wp2
        go_ret
        exact ⟨by rw [H.out]; rfl, _, rfl⟩
      · have t8 : decide ((bs.length : Int) ≤ a * sz + b) = false := decide_eq_false h8
        obtain ⟨j, hj⟩ : ∃ j : Nat, a * sz + b = (j : Int) := ⟨(a * sz + b).toNat, by omega⟩
        have hjl : j < bs.length := by omega
        have H := Lib.hid (show bef sz bs a b = bs[j] by rw [bef_yes (by intro hh; rcases hh with h | h | h | h | h | h <;> omega), show (a * sz + b).toNat = j by omega]; simp [hjl])
        obtain ⟨bb, off, rfl, hbw, hc⟩ := HS.out.2 (by omega)
        have c0 := hc j _ (bools_at bs j hjl)
        have hbw' : bb < w.heap.size := by omega
        generalize bs[j] = bj at *
        clear hc
        clear hm0
        go_enter Try.func55, Try.ntmps55
        go_wp2_with fail
        go_quiet (fail)
        go_wp2
        go_ret
        exact ⟨by rw [H.out]; rfl, _, rfl⟩

set_option maxHeartbeats 1000000 in
theorem precedes_any (sz : Int) (Ab : Option Addr) (cb : Nat) (bs : List Bool) (a b : Int) (w : World) (B : Nat) (hs : Sees w B 1 Ab bs.length (bs.map Value.bool)) (hB : B ≤ w.heap.size) (hn : bs.length ≤ 140737488355328) (hwz : -9223372036854775808 ≤ sz ∧ sz ≤ 9223372036854775807) (hwa : -9223372036854775808 ≤ a ∧ a ≤ 9223372036854775807) (hwb : -9223372036854775808 ≤ b ∧ b ≤ 9223372036854775807) :
    Calls Try.prog 18 #[.agg #[.int .i64 sz, .slice Ab bs.length cb], .int .i64 a, .int .i64 b] w fun e w' => e = .returned (.bool (bef sz bs a b)) ∧ ∃ q, w' = (w.alloc (.cells #[.int .i64 sz, .slice Ab bs.length cb] 24)).drewN q := by
  have HS := Lib.hid hs
  clear hs
  by_cases h1 : a < 0
  · have t1 : decide (a < 0) = true := decide_eq_true h1
    have H := Lib.hid (bef_no (sz := sz) (bs := bs) (b := b) (.inl h1))
    go_enter Try.func18, Try.ntmps18
    go_wp2_with fail
    go_quiet (fail)
    go_wp2
    go_ret
    exact ⟨by rw [H.out]; rfl, _, rfl⟩
  have t1 : decide (a < 0) = false := decide_eq_false h1
  by_cases h2 : b < 0
  · have t2 : decide (b < 0) = true := decide_eq_true h2
    have H := Lib.hid (bef_no (sz := sz) (bs := bs) (a := a) (.inr (.inl h2)))
    go_enter Try.func18, Try.ntmps18
    go_wp2_with fail
    go_quiet (fail)
    go_wp2
    go_ret
    exact ⟨by rw [H.out]; rfl, _, rfl⟩
  have t2 : decide (b < 0) = false := decide_eq_false h2
  by_cases h3 : sz ≤ a
  · have t3 : decide (sz ≤ a) = true := decide_eq_true h3
    have H := Lib.hid (bef_no (bs := bs) (b := b) (.inr (.inr (.inl h3))))
    go_enter Try.func18, Try.ntmps18
    go_wp2_with fail
    go_quiet (fail)
    go_wp2
    go_ret
    exact ⟨by rw [H.out]; rfl, _, rfl⟩
  have t3 : decide (sz ≤ a) = false := decide_eq_false h3
  by_cases h4 : sz ≤ b
  · have t4 : decide (sz ≤ b) = true := decide_eq_true h4
    have H := Lib.hid (bef_no (bs := bs) (a := a) (.inr (.inr (.inr (.inl h4)))))
    go_enter Try.func18, Try.ntmps18
    go_wp2_with fail
    go_quiet (fail)
    go_wp2
    go_ret
    exact ⟨by rw [H.out]; rfl, _, rfl⟩
  have t4 : decide (sz ≤ b) = false := decide_eq_false h4
  by_cases h5 : a = 0
  · subst h5
    by_cases h6 : (bs.length : Int) ≤ b
    · have t6 : decide ((bs.length : Int) ≤ b) = true := decide_eq_true h6
      have H := Lib.hid (bef_no (sz := sz) (bs := bs) (a := 0) (b := b) (.inr (.inr (.inr (.inr (.inr (by rw [Int.zero_mul, Int.zero_add]; exact h6)))))))
      go_enter Try.func18, Try.ntmps18
      go_wp2_with fail
      go_quiet (fail)
      go_wp2
      go_ret
      exact ⟨by rw [H.out]; rfl, _, rfl⟩
    · have t6 : decide ((bs.length : Int) ≤ b) = false := decide_eq_false h6
      obtain ⟨j, hj⟩ : ∃ j : Nat, b = (j : Int) := ⟨(b).toNat, by omega⟩
      have hjl : j < bs.length := by omega
      have H := Lib.hid (show bef sz bs 0 b = bs[j] by rw [bef_yes (by rw [Int.zero_mul, Int.zero_add]; omega), show (0 * sz + b).toNat = j by rw [Int.zero_mul, Int.zero_add]; omega]; simp [hjl])
      obtain ⟨bb, off, rfl, hbw, hc⟩ := HS.out.2 (by omega)
      have c0 := hc j _ (bools_at bs j hjl)
      have hbw' : bb < w.heap.size := by omega
      generalize bs[j] = bj at *
      clear hc
      subst hj
      go_enter Try.func18, Try.ntmps18
      go_wp2_with fail
      go_quiet (fail)
      go_wp2
      go_ret
      exact ⟨by rw [H.out]; rfl, _, rfl⟩
  · have hpos : 0 < a := by omega
    have tp : decide (0 < a) = true := decide_eq_true hpos
    have hq0 : 0 ≤ (bs.length : Int) / a := Int.ediv_nonneg (by omega) (by omega)
    have hq1 : (bs.length : Int) / a ≤ (bs.length : Int) := Int.ediv_le_self _ (by omega)
    have hwr : IntKind.i64.wrap ((bs.length : Int) / a) = (bs.length : Int) / a := wrap_in (by omega) (by omega)
    by_cases h7 : (bs.length : Int) / a < sz
    · have t7 : decide ((bs.length : Int) / a < sz) = true := decide_eq_true h7
      have H := Lib.hid (bef_no (sz := sz) (bs := bs) (a := a) (b := b) (.inr (.inr (.inr (.inr (.inl ⟨hpos, h7⟩))))))
      go_enter Try.func18, Try.ntmps18
      go_wp2_with fail
      go_quiet (fail)
      go_wp2
      go_ret
      exact ⟨by rw [H.out]; rfl, _, rfl⟩
    · have t7 : decide ((bs.length : Int) / a < sz) = false := decide_eq_false h7
      have hm := mul_room hpos (by omega) h7
      have hm0 : sz ≤ a * sz := by
        have := Int.mul_le_mul_of_nonneg_right (show 1 ≤ a by omega) (show 0 ≤ sz by omega)
        rwa [Int.one_mul] at this
      have hwm : IntKind.i64.wrap (a * sz) = a * sz := wrap_in (by omega) (by omega)
      have hws : IntKind.i64.wrap (a * sz + b) = a * sz + b := wrap_in (by omega) (by omega)
      by_cases h8 : (bs.length : Int) ≤ a * sz + b
      · have t8 : decide ((bs.length : Int) ≤ a * sz + b) = true := decide_eq_true h8
        have H := Lib.hid (bef_no (sz := sz) (bs := bs) (a := a) (b := b) (.inr (.inr (.inr (.inr (.inr h8))))))
        go_enter Try.func18, Try.ntmps18
        go_wp2_with fail
        go_quiet (fail)
        go_wp2
        go_ret
        exact ⟨by rw [H.out]; rfl, _, rfl⟩
      · have t8 : decide ((bs.length : Int) ≤ a * sz + b) = false := decide_eq_false h8
        obtain ⟨j, hj⟩ : ∃ j : Nat, a * sz + b = (j : Int) := ⟨(a * sz + b).toNat, by omega⟩
        have hjl : j < bs.length := by omega
        have H := Lib.hid (show bef sz bs a b = bs[j] by rw [bef_yes (by intro hh; rcases hh with h | h | h | h | h | h <;> omega), show (a * sz + b).toNat = j by omega]; simp [hjl])
        obtain ⟨bb, off, rfl, hbw, hc⟩ := HS.out.2 (by omega)
        have c0 := hc j _ (bools_at bs j hjl)
        have hbw' : bb < w.heap.size := by omega
        generalize bs[j] = bj at *
        clear hc
        clear hm0
        go_enter Try.func18, Try.ntmps18
        go_wp2_with fail
        go_quiet (fail)
        go_wp2
        go_ret
        exact ⟨by rw [H.out]; rfl, _, rfl⟩
end Go.Proofs.Ytgijkfkfifjokaa
