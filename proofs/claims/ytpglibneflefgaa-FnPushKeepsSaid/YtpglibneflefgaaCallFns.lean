/- The laws' own functions on calls: asked, qCount, bits, qBits. -/
import Derived.Test.YtpglibneflefgaaWatchPlain
namespace Go.Proofs.Ytpglibneflefgaa
set_option linter.unusedVariables false
open Go.RowKit

theorem quiet_same {P : Program} {f : FuncId} {args : Array Value} {w : World} {v : Value} (h : Calls P f args w fun e w' => e = .returned v ∧ w = w') :
    Calls P f args w fun e w' => e = .returned v ∧ Below w.heap.size w w' := h.mono fun _ _ ⟨he, hq⟩ => ⟨he, hq ▸ Below.refl _ _⟩

set_option maxHeartbeats 400000 in
theorem bits_any (n : Nat) (w : World) (hn : n < 4611686018427387904) :
    Calls Try.prog 22 #[.int .i64 n] w fun e w' => e = .returned (.int .i64 (bitsN n : Nat)) ∧ w = w' := by
  go_enter Try.func22, Try.ntmps22
  go_wp2
  go_loopg [0, 3] n (fun m v k wr => ∃ (q c : Nat), v = .int .i64 q ∧ k = .int .i64 c ∧ q ≤ m ∧ c + q ≤ n ∧ Hid (c + bitsN q = bitsN n) ∧ w = wr)
  case atStart => exact ⟨n, 0, rfl, rfl, Nat.le_refl _, by omega, Lib.hid (Nat.zero_add _), rfl⟩
  case round =>
    obtain ⟨q, c, rfl, rfl, hq, hc, HE, rfl⟩ := hrel
    by_cases h0 : 0 < q
    · have t1 : decide (0 < q) = true := decide_eq_true h0
      have t1' : decide ((0 : Int) < (q : Int)) = true := decide_eq_true (by omega)
      have HB := Lib.hid (bitsN_pos h0)
      obtain ⟨p, hp⟩ : ∃ p : Nat, p = q / 2 := ⟨_, rfl⟩
      rw [← hp] at HB
      have hz : (q : Int) / 2 = (p : Int) := by omega
      have hp2 : p + 1 ≤ q := by omega
      have HP := Lib.hid hp
      clear hp
      go_wp2
      go_roundg p
      case measure => omega
      case rel => exact ⟨p, c + 1, rfl, by go_num, Nat.le_refl _, by omega, Lib.hid (by have := HE.out; have := HB.out; omega), rfl⟩
    · obtain rfl : q = 0 := by omega
      have HE' := Lib.hid (show c = bitsN n by have := HE.out; rw [bitsN_zero] at this; omega)
      go_wp2
      go_ret
      exact ⟨by rw [← HE'.out]; rfl, rfl⟩

theorem bits_next (n : Nat) (w : World) (hn : n + 1 < 4611686018427387904) : Calls Try.prog 22 #[.int .i64 ((n : Int) + 1)] w fun e w' => e = .returned (.int .i64 (bitsN (n + 1) : Nat)) ∧ w = w' := bits_any (n + 1) w hn

set_option maxHeartbeats 400000 in
theorem qBits_any (n : Nat) (w : World) (hn : n < 4611686018427387904) :
    Calls Try.prog 23 #[.int .i64 n] w fun e w' => e = .returned (.int .i64 (bitsN n : Nat)) ∧ w = w' := by
  go_enter Try.func23, Try.ntmps23
  go_wp2
  go_loopg [0, 3] n (fun m v k wr => ∃ (q c : Nat), v = .int .i64 q ∧ k = .int .i64 c ∧ q ≤ m ∧ c + q ≤ n ∧ Hid (c + bitsN q = bitsN n) ∧ w = wr)
  case atStart => exact ⟨n, 0, rfl, rfl, Nat.le_refl _, by omega, Lib.hid (Nat.zero_add _), rfl⟩
  case round =>
    obtain ⟨q, c, rfl, rfl, hq, hc, HE, rfl⟩ := hrel
    by_cases h0 : 0 < q
    · have t1 : decide (0 < q) = true := decide_eq_true h0
      have t1' : decide ((0 : Int) < (q : Int)) = true := decide_eq_true (by omega)
      have HB := Lib.hid (bitsN_pos h0)
      obtain ⟨p, hp⟩ : ∃ p : Nat, p = q / 2 := ⟨_, rfl⟩
      rw [← hp] at HB
      have hz : (q : Int) / 2 = (p : Int) := by omega
      have hp2 : p + 1 ≤ q := by omega
      have HP := Lib.hid hp
      clear hp
      go_wp2
      go_roundg p
      case measure => omega
      case rel => exact ⟨p, c + 1, rfl, by go_num, Nat.le_refl _, by omega, Lib.hid (by have := HE.out; have := HB.out; omega), rfl⟩
    · obtain rfl : q = 0 := by omega
      have HE' := Lib.hid (show c = bitsN n by have := HE.out; rw [bitsN_zero] at this; omega)
      go_wp2
      go_ret
      exact ⟨by rw [← HE'.out]; rfl, rfl⟩

set_option maxHeartbeats 800000 in
theorem asked_any (A : Option Addr) (c : Nat) (cs : List Cal) (w : World) (hs : Sees w w.heap.size 4 A cs.length (ccs cs)) (hn : cs.length < 4611686018427387904) :
    Calls Try.prog 15 #[.slice A cs.length c] w fun e w' => e = .returned (.int .i64 (cntK 1 cs : Nat)) ∧ Below w.heap.size w w' := by
  have HS := Lib.hid hs
  clear hs
  go_enter Try.func15, Try.ntmps15
  go_wp2
  go_loopg [3, 8] cs.length (fun m n i wr => ∃ (k : Nat), i = .int .i64 k ∧ k + m = cs.length ∧ n = .int .i64 (cntK 1 (cs.take k) : Nat) ∧ Hid (Below w.heap.size w wr))
  case atStart => exact ⟨0, rfl, by omega, rfl, Below.refl _ _⟩
  case round =>
    obtain ⟨k, rfl, hk, rfl, HB⟩ := hrel
    have hcl : cntK 1 (cs.take k) ≤ k := Nat.le_trans List.countP_le_length (List.length_take_le _ _)
    by_cases hlt : k < cs.length
    · obtain ⟨b, off, rfl, hbw, hc⟩ := HS.out.cellAt (by omega) HB.out
      have c0 := hc (k * 4) _ (ccs_kind cs k hlt)
      have c1 := hc (k * 4 + 1) _ (ccs_len cs k hlt)
      have c2 := hc (k * 4 + 2) _ (ccs_i cs k hlt)
      have c3 := hc (k * 4 + 3) _ (ccs_j cs k hlt)
      rw [← Nat.add_assoc] at c1 c2 c3
      clear hc
      have hbw' : b < wr.heap.size := Nat.lt_of_lt_of_le hbw HB.out.size
      have hts := cntK_snoc 1 (cs.take k) cs[k]
      rw [← List.take_succ_eq_append_getElem hlt] at hts
      have hk' := Lib.hid hk
      have hkl : k + 1 ≤ cs.length := hlt
      clear hk
      obtain ⟨⟨q0, q1, q2, q3⟩, hq⟩ : ∃ q, cs[k] = q := ⟨_, rfl⟩
      rw [hq] at c0 c1 c2 c3 hts
      dsimp only at c0 c1 c2 c3 hts
      clear hq
      generalize cntK 1 (cs.take k) = cn at *
      by_cases h0 : q0 = 1
      · rw [if_pos h0] at hts
        subst h0
        have H1 := Lib.hid hts
        clear hts
        go_wp2
        go_roundg (cs.length - (k + 1))
        case measure => have := hk'.out; omega
        case rel => exact ⟨k + 1, by go_num, by omega, by rw [H1.out]; go_num, Lib.hid (HB.out.alloc HB.out.size _)⟩
      · rw [if_neg h0, Nat.add_zero] at hts
        have H1 := Lib.hid hts
        have hb0 : (q0 == 1) = false := beq_eq_false_iff_ne.2 h0
        clear hts h0
        go_wp2
        go_roundg (cs.length - (k + 1))
        case measure => have := hk'.out; omega
        case rel => exact ⟨k + 1, by go_num, by omega, by rw [H1.out]; rfl, Lib.hid (HB.out.alloc HB.out.size _)⟩
    · obtain rfl : k = cs.length := by omega
      go_wp2
      go_ret
      exact ⟨by rw [List.take_length]; rfl, HB.out⟩

set_option maxHeartbeats 800000 in
theorem qCount_any (A : Option Addr) (c : Nat) (cs : List Cal) (kk : Int) (w : World) (hs : Sees w w.heap.size 4 A cs.length (ccs cs)) (hn : cs.length < 4611686018427387904) :
    Calls Try.prog 20 #[.slice A cs.length c, .int .i64 kk] w fun e w' => e = .returned (.int .i64 (cntK kk cs : Nat)) ∧ Below w.heap.size w w' := by
  have HS := Lib.hid hs
  clear hs
  go_enter Try.func20, Try.ntmps20
  go_wp2
  go_loopg [5, 10] cs.length (fun m n i wr => ∃ (k : Nat), i = .int .i64 k ∧ k + m = cs.length ∧ n = .int .i64 (cntK kk (cs.take k) : Nat) ∧ Hid (Below w.heap.size w wr))
  case atStart => exact ⟨0, rfl, by omega, rfl, Below.refl _ _⟩
  case round =>
    obtain ⟨k, rfl, hk, rfl, HB⟩ := hrel
    have hcl : cntK kk (cs.take k) ≤ k := Nat.le_trans List.countP_le_length (List.length_take_le _ _)
    by_cases hlt : k < cs.length
    · obtain ⟨b, off, rfl, hbw, hc⟩ := HS.out.cellAt (by omega) HB.out
      have c0 := hc (k * 4) _ (ccs_kind cs k hlt)
      have c1 := hc (k * 4 + 1) _ (ccs_len cs k hlt)
      have c2 := hc (k * 4 + 2) _ (ccs_i cs k hlt)
      have c3 := hc (k * 4 + 3) _ (ccs_j cs k hlt)
      rw [← Nat.add_assoc] at c1 c2 c3
      clear hc
      have hbw' : b < wr.heap.size := Nat.lt_of_lt_of_le hbw HB.out.size
      have hts := cntK_snoc kk (cs.take k) cs[k]
      rw [← List.take_succ_eq_append_getElem hlt] at hts
      have hk' := Lib.hid hk
      have hkl : k + 1 ≤ cs.length := hlt
      clear hk
      obtain ⟨⟨q0, q1, q2, q3⟩, hq⟩ : ∃ q, cs[k] = q := ⟨_, rfl⟩
      rw [hq] at c0 c1 c2 c3 hts
      dsimp only at c0 c1 c2 c3 hts
      clear hq
      generalize cntK kk (cs.take k) = cn at *
      by_cases h0 : q0 = kk
      · rw [if_pos h0] at hts
        subst h0
        have H1 := Lib.hid hts
        clear hts
        go_wp2
        go_roundg (cs.length - (k + 1))
        case measure => have := hk'.out; omega
        case rel => exact ⟨k + 1, by go_num, by omega, by rw [H1.out]; go_num, Lib.hid (HB.out.alloc HB.out.size _)⟩
      · rw [if_neg h0, Nat.add_zero] at hts
        have H1 := Lib.hid hts
        have hb0 : (q0 == kk) = false := beq_eq_false_iff_ne.2 h0
        clear hts h0
        go_wp2
        go_roundg (cs.length - (k + 1))
        case measure => have := hk'.out; omega
        case rel => exact ⟨k + 1, by go_num, by omega, by rw [H1.out]; rfl, Lib.hid (HB.out.alloc HB.out.size _)⟩
    · obtain rfl : k = cs.length := by omega
      go_wp2
      go_ret
      exact ⟨by rw [List.take_length]; rfl, HB.out⟩

end Go.Proofs.Ytpglibneflefgaa
