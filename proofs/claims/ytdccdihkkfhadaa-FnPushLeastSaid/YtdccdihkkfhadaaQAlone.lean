/- The laws' own functions on items: qAlone, at the index -1 and the sign 1: all items have a greater key. -/
import Derived.Test.YtdccdihkkfhadaaLawFns
namespace Go.Proofs.Ytdccdihkkfhadaa
set_option linter.unusedVariables false
open Go.RowKit

set_option maxHeartbeats 400000 in
theorem qAlone_any (A : Option Addr) (c : Nat) (l : List (Int × Int)) (key : Int) (w : World) (hs : Sees w w.heap.size 2 A l.length (ics l)) (hn : l.length < 4611686018427387904) :
    Calls Try.prog 19 #[.slice A l.length c, .int .i64 (-1), .int .i64 key, .int .i64 1] w fun e w' => e = .returned (.bool (decide (∀ y ∈ l, key < y.1))) ∧ Below w.heap.size w w' := by
  have HS := Lib.hid hs
  clear hs
  go_enter Try.func19, Try.ntmps19
  go_wp2
  go_loopg [13] l.length (fun m i wr => ∃ (k : Nat), i = .int .i64 k ∧ k + m = l.length ∧ Hid (∀ j (h : j < l.length), j < k → key < l[j].1) ∧ Hid (Below w.heap.size w wr))
  case atStart => exact ⟨0, rfl, by omega, fun j _ h => by omega, Below.refl _ _⟩
  case round =>
    obtain ⟨k, rfl, hk, HO, HB⟩ := hrel
    by_cases hlt : k < l.length
    · obtain ⟨b, off, rfl, hbw, hc⟩ := HS.out.cellAt (by omega) HB.out
      have c0 := hc (k * 2) _ (ics_key l k hlt)
      have c1 := hc (k * 2 + 1) _ (ics_tag l k hlt)
      clear hc
      rw [← Nat.add_assoc] at c1
      have hbw' : b < wr.heap.size := Nat.lt_of_lt_of_le hbw HB.out.size
      have hk' := Lib.hid hk
      clear hk
      have hkl : k + 1 ≤ l.length := hlt
      have hm1 : ((k : Int) != -1) = true := by rw [bne_iff_ne]; omega
      by_cases hx : l[k].1 ≤ key
      · have HF := Lib.hid (decide_eq_false (p := ∀ y ∈ l, key < y.1) fun H => absurd (H l[k] (List.getElem_mem hlt)) (by omega))
        generalize l[k].1 = x0 at *
        generalize l[k].2 = x1 at *
        have hx' : decide (x0 ≤ key) = true := decide_eq_true hx
        go_wp2
        go_ret
        rw [HF.out]
        exact ⟨rfl, HB.out.alloc HB.out.size _⟩
      · have HO' := Lib.hid (show ∀ j (h : j < l.length), j < k + 1 → key < l[j].1 from fun j h h2 => by
          by_cases e : j = k
          · subst e; omega
          · exact HO.out j h (by omega))
        clear HO
        generalize l[k].1 = x0 at *
        generalize l[k].2 = x1 at *
        have hx' : decide (x0 ≤ key) = false := decide_eq_false hx
        go_wp2
        go_roundg (l.length - (k + 1))
        case measure => have := hk'.out; omega
        case rel => exact ⟨k + 1, by go_num, by omega, HO', HB.out.alloc HB.out.size _⟩
    · have HT := Lib.hid (decide_eq_true (p := ∀ y ∈ l, key < y.1) fun y hy => by
        obtain ⟨j, hj, rfl⟩ := List.getElem_of_mem hy
        exact HO.out j hj (by omega))
      go_wp2
      go_ret
      rw [HT.out]
      exact ⟨rfl, HB.out⟩
end Go.Proofs.Ytdccdihkkfhadaa
