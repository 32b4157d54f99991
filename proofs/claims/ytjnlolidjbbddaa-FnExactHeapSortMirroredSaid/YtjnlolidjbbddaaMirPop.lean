/- The mirrored heap: Pop. -/
import Derived.Test.YtjnlolidjbbddaaMirror
namespace Go.Proofs.Ytjnlolidjbbddaa
set_option linter.unusedVariables false
open Go.RowKit
def PopMir (w : World) (a g off n c : Nat) (x : Int) (e : Ending) (w' : World) : Prop :=
  ∃ A', e = .returned (.iface 3 (.int .i64 x)) ∧ (1 < c → A' = some ⟨g, off + 1, none⟩) ∧ w' = w.setCell ⟨a, 0, none⟩ (.slice A' n (c - 1))
set_option maxHeartbeats 400000 in
theorem mir_Pop_walk (a g off n c : Nat) (w : World) (x : Int) (hn : n < 4611686018427387904) (hnc : n + 1 ≤ c) (hc : c ≤ 9223372036854775807)
    (ha : a < w.heap.size) (hg : g < w.heap.size)
    (hh : w.cell? ⟨a, 0, none⟩ = some (.slice (some ⟨g, off, none⟩) (n + 1) c)) (hf : w.frozen? ⟨a, 0, none⟩ = false)
    (ck : w.cell? ⟨g, off, none⟩ = some (.int .i64 x)) :
    Calls Try.prog 39 #[.pointer (some ⟨a, 0, none⟩)] w (PopMir w a g off n c x) := by
  by_cases h1 : c = 1
  · subst h1
    obtain rfl : n = 0 := by omega
    go_enter Try.func39, Try.ntmps39
    go_wp2
    go_ret
    exact ⟨_, rfl, fun h => absurd h (by omega), rfl⟩
  · obtain ⟨c', rfl⟩ : ∃ c', c = c' + 2 := ⟨c - 2, by omega⟩
    have hz : ¬ ((c' : Int) + 2 = 1) := by omega
    go_enter Try.func39, Try.ntmps39
    go_wp2
    go_ret
    exact ⟨_, rfl, fun _ => rfl, rfl⟩
end Go.Proofs.Ytjnlolidjbbddaa
