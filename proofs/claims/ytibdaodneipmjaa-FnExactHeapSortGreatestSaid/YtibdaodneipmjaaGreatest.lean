/- The heap of numbers, the greatest first. -/
import Derived.Test.YtibdaodneipmjaaInts
namespace Go.Proofs.Ytibdaodneipmjaa
set_option linter.unusedVariables false
open Go.RowKit

section
theorem greatest_find_Len (a : Nat) (w : World) : (method (Try.prog.types.size + Made.depth) 41 (.pointer (some ⟨a, 0, none⟩)) "Len").run Try.prog w = (do let v ← load ⟨a, 0, none⟩; pure (63, v) : Sem (FuncId × Value)).run Try.prog w := by kernel_rfl
theorem greatest_find_Swap (a : Nat) (w : World) : (method (Try.prog.types.size + Made.depth) 41 (.pointer (some ⟨a, 0, none⟩)) "Swap").run Try.prog w = (do let v ← load ⟨a, 0, none⟩; pure (65, v) : Sem (FuncId × Value)).run Try.prog w := by kernel_rfl
theorem greatest_find_Pop (a : Nat) (w : World) : (method (Try.prog.types.size + Made.depth) 41 (.pointer (some ⟨a, 0, none⟩)) "Pop").run Try.prog w = .ok (66, .pointer (some ⟨a, 0, none⟩)) w := by kernel_rfl
theorem greatest_find_Less (a : Nat) (w : World) : (method (Try.prog.types.size + Made.depth) 41 (.pointer (some ⟨a, 0, none⟩)) "Less").run Try.prog w = (do let v ← load ⟨a, 0, none⟩; pure (68, .agg #[v]) : Sem (FuncId × Value)).run Try.prog w := by kernel_rfl
end
theorem agg1_load {P : Program} {w : World} {a : Addr} {v : Value} (f : FuncId) (h : w.cell? a = some v) : (do let v ← load a; pure (f, .agg #[v]) : Sem (FuncId × Value)).run P w = .ok (f, .agg #[v]) w := by
  simp [go_sem, h]

set_option maxHeartbeats 400000 in
theorem greatest_Less (g n c i j : Nat) (w : World) (x y : Int) (hi : i < n) (hj : j < n) (hn : n < 4611686018427387904) (hg : g < w.heap.size)
    (ci : w.cell? ⟨g, i, none⟩ = some (.int .i64 x)) (cj : w.cell? ⟨g, j, none⟩ = some (.int .i64 y)) :
    Calls Try.prog 68 #[.agg #[.slice (some ⟨g, 0, none⟩) n c], .int .i64 i, .int .i64 j] w fun e w' => e = .returned (.bool (igt x y)) ∧ ∃ q, w' = (w.alloc (.cells #[.slice (some ⟨g, 0, none⟩) n c] 40)).drewN q := by
  go_enter Try.func68, Try.ntmps68
  go_wp2
  go_quiet (fail)
  go_wp2
  go_ret
  exact ⟨rfl, nq, rfl⟩
theorem greatest_impl (K : Nat → Prop) (w0 : World) (a C : Nat) (N : Nat) (hN : N < 4611686018427387904) :
    Impl Try.prog 41 (.pointer (some ⟨a, 0, none⟩)) (listM igt) (fun xs w => IntsAt 40 [] K w0 a xs w ∧ xs.length ≤ N) (C + 1) := by
  refine ⟨listM_fair _, ?_, ?_, ?_⟩
  · rintro xs w ⟨h, hl⟩
    exact ints_len_at h hl (fun v hv => (greatest_find_Len _ w).trans (ints_load _ hv)) igt
  · rintro xs w i j ⟨h, hl⟩ hi hj _
    obtain ⟨A, c, hb, ho, hK⟩ := h.hdr
    have hi' : i < xs.length := hi
    have hj' : j < xs.length := hj
    obtain ⟨g, cap, hv, _, hlt⟩ := ho.form (by omega)
    obtain ⟨rfl, rfl⟩ : A = some ⟨g, 0, none⟩ ∧ c = cap := by simpa using hv
    refine ⟨_, _, (greatest_find_Less _ w).trans (agg1_load _ (hb.cell 0)), fun _ _ => by kernel_rfl, ?_⟩
    refine (greatest_Less g xs.length c i j w xs[i] xs[j] hi' hj' (by omega) hlt ?_ ?_).mono ?_
    · rw [ho.cellAt _ (by omega)]; exact ints_at hi'
    · rw [ho.cellAt _ (by omega)]; exact ints_at hj'
    rintro e w' ⟨rfl, q, rfl⟩
    exact ⟨by rw [listM_less _ hi' hj'], (h.alloc _).drewN q, hl⟩
  · rintro xs w i j ⟨h, hl⟩ hi hj _
    exact ints_swap_at h (by decide) hl hN (fun v hv => (greatest_find_Swap _ w).trans (ints_load _ hv)) igt hi hj
theorem greatest_heapPop (K : Nat → Prop) (w0 : World) (a : Nat) (l : List Int) (w : World) (h : IntsAt 40 [] K w0 a l w) (h0 : 0 < l.length) (hn : l.length < 4611686018427387904) :
    Calls Try.prog 38 #[.iface 41 (.pointer (some ⟨a, 0, none⟩))] w fun e w' => e = .returned (.iface 3 (.int .i64 (popTop igt 0 l))) ∧ IntsAt 40 [] K w0 a (popRest igt l) w' := by
  refine pop_any (greatest_impl K w0 a (3 * l.length) l.length hn) l w (l.length - 1) _ _ ⟨h, Nat.le_refl _⟩ (by show l.length = _; omega) (by omega) (by show 0 + _ + 1 ≤ _; omega) ?_
  rintro w1 ⟨h1, _⟩
  exact ints_pop_at h1 (by decide) (by show (popAll igt l).length = _; rw [popAll_length]; omega) (by omega) (greatest_find_Pop _ _)
end Go.Proofs.Ytibdaodneipmjaa
