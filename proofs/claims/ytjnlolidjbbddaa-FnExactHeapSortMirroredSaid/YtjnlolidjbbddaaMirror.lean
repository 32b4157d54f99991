/- The heap of numbers that keeps its elements from the end: its methods. -/
import Derived.Test.YtjnlolidjbbddaaInts
import Derived.Deep.RegionLaw
import Derived.Deep.RegionWith
import Derived.Deep.RegionHeld3
namespace Go.Proofs.Ytjnlolidjbbddaa
set_option linter.unusedVariables false
open Go.RowKit

set_option maxHeartbeats 400000 in
theorem mir_Len (A : Option Addr) (n c : Nat) (w : World) : Calls Try.prog 35 #[.slice A n c] w fun e w' => e = .returned (.int .i64 n) ∧ w = w' := by
  go_enter Try.func35, Try.ntmps35
  go_wp2
  go_ret
  exact ⟨rfl, rfl⟩
set_option maxHeartbeats 400000 in
theorem mir_at (A : Option Addr) (n c i p : Nat) (w : World) (hp : p + i + 1 = n) (hn : n < 4611686018427387904) : Calls Try.prog 38 #[.slice A n c, .int .i64 i] w fun e w' => e = .returned (.int .i64 p) ∧ w = w' := by
  have hz : (n : Int) - 1 - (i : Int) = (p : Int) := by omega
  have HP := Lib.hid hp
  have hi : i + 1 ≤ n := by omega
  clear hp
  go_enter Try.func38, Try.ntmps38
  go_wp2
  go_ret
  exact ⟨rfl, rfl⟩
set_option maxHeartbeats 800000 in
theorem mir_Less (g off n c i j p q : Nat) (w : World) (x y : Int) (hp : p + i + 1 = n) (hq : q + j + 1 = n) (hn : n < 4611686018427387904)
    (ci : w.cell? ⟨g, off + p, none⟩ = some (.int .i64 x)) (cj : w.cell? ⟨g, off + q, none⟩ = some (.int .i64 y)) :
    Calls Try.prog 36 #[.slice (some ⟨g, off, none⟩) n c, .int .i64 i, .int .i64 j] w fun e w' => e = .returned (.bool (ilt x y)) ∧ ∃ q, w' = w.drewN q := by
  have HP := Lib.hid hp
  have HQ := Lib.hid hq
  have h1 : p + 1 ≤ n := by omega
  have h2 : q + 1 ≤ n := by omega
  clear hp hq
  go_enter Try.func36, Try.ntmps36
  go_wp2
  go_quiet (first
    | (go_at_call_of 38 (Value.int .i64 (i : Int)); exact Calls.quiet_of_same ((mir_at _ n c i p _ HP.out hn).mono fun _ _ h => ⟨h.1, h.2.symm⟩))
    | (go_at_call_of 38 (Value.int .i64 (j : Int)); exact Calls.quiet_of_same ((mir_at _ n c j q _ HQ.out hn).mono fun _ _ h => ⟨h.1, h.2.symm⟩)))
  go_wp2
  go_ret
  exact ⟨rfl, nq, rfl⟩
set_option maxHeartbeats 1600000 in
theorem mir_Swap (g off n c i j p q : Nat) (w : World) (x y : Int) (hp : p + i + 1 = n) (hq : q + j + 1 = n) (hn : n < 4611686018427387904)
    (ci : w.cell? ⟨g, off + p, none⟩ = some (.int .i64 x)) (cj : w.cell? ⟨g, off + q, none⟩ = some (.int .i64 y)) (hf : ∀ o, w.frozen? ⟨g, o, none⟩ = false) :
    Calls Try.prog 37 #[.slice (some ⟨g, off, none⟩) n c, .int .i64 i, .int .i64 j] w fun e w' => e = .returned (.tuple #[]) ∧ ∃ k, w' = ((w.setCell ⟨g, off + p, none⟩ (.int .i64 y)).setCell ⟨g, off + q, none⟩ (.int .i64 x)).drewN k := by
  obtain ⟨v1, hy1⟩ := cell?_setCell_some (w := w) (p := ⟨g, off + p, none⟩) (x := (Value.int .i64) y) (q := ⟨g, off + q, none⟩) cj
  have HP := Lib.hid hp
  have HQ := Lib.hid hq
  have h1 : p + 1 ≤ n := by omega
  have h2 : q + 1 ≤ n := by omega
  clear hp hq
  go_enter Try.func37, Try.ntmps37
  go_wp2_with fail
  go_region_with (first
    | (go_at_call_of 38 (Value.int .i64 (i : Int)); refine (mir_at _ n c i p _ HP.out hn).mono ?_; rintro e w' ⟨rfl, rfl⟩)
    | (go_at_call_of 38 (Value.int .i64 (j : Int)); refine (mir_at _ n c j q _ HQ.out hn).mono ?_; rintro e w' ⟨rfl, rfl⟩))
  all_goals (try go_wp2)
  all_goals go_end0
  all_goals exact ⟨rfl, 1, rfl⟩
end Go.Proofs.Ytjnlolidjbbddaa
