/- The heap of items: its methods, and the functions HeapInit, HeapPush, HeapPop over it. -/
import Derived.Test.YtpglibneflefgaaRow
import Derived.Test.YtpglibneflefgaaHeap
import Derived.Deep.QuietTactic
import Derived.BigQuiet
import Derived.Deep.RegionLaw
namespace Go.Proofs.Ytpglibneflefgaa
set_option linter.unusedVariables false
open Go.RowKit

def klt (x y : Int × Int) : Bool := decide (x.1 < y.1)
theorem two_cells (k t : Int) : ∀ u ∈ [Value.int .i64 k, Value.int .i64 t], u.oneCell' = true := by
  intro u hu
  simp at hu
  rcases hu with rfl | rfl <;> rfl
theorem run_load_pair {P : Program} {w : World} {a : Addr} {v : Value} (f : FuncId) (h : w.cell? a = some v) : (do let v ← load a; pure (f, v) : Sem (FuncId × Value)).run P w = .ok (f, v) w := by
  simp [go_sem, h]

theorem info_item : (Try.prog.info? 36).map (fun i => (i.zero, i.size, i.bytes)) = some (some (.agg #[.int .i64 0, .int .i64 0]), 2, 16) := by kernel_rfl
theorem assert_item (v : Value) (w : World) : (Instr.typeAssert (.iface 36 v) 20 36 false).run Try.prog w = .ok v w := by kernel_rfl

section
theorem items_find_Len (a : Addr) (w : World) : (method (Try.prog.types.size + Made.depth) 52 (.pointer (some a)) "Len").run Try.prog w = (do let v ← load a; pure (54, v) : Sem (FuncId × Value)).run Try.prog w := by kernel_rfl
theorem items_find_Less (a : Addr) (w : World) : (method (Try.prog.types.size + Made.depth) 52 (.pointer (some a)) "Less").run Try.prog w = (do let v ← load a; pure (55, v) : Sem (FuncId × Value)).run Try.prog w := by kernel_rfl
theorem items_find_Swap (a : Addr) (w : World) : (method (Try.prog.types.size + Made.depth) 52 (.pointer (some a)) "Swap").run Try.prog w = (do let v ← load a; pure (56, v) : Sem (FuncId × Value)).run Try.prog w := by kernel_rfl
theorem items_find_Push (a : Addr) (w : World) : (method (Try.prog.types.size + Made.depth) 52 (.pointer (some a)) "Push").run Try.prog w = .ok (62, .pointer (some a)) w := by kernel_rfl
theorem items_find_Pop (a : Addr) (w : World) : (method (Try.prog.types.size + Made.depth) 52 (.pointer (some a)) "Pop").run Try.prog w = .ok (61, .pointer (some a)) w := by kernel_rfl
end

set_option maxHeartbeats 400000 in
theorem items_Len (A : Option Addr) (n c : Nat) (w : World) : Calls Try.prog 54 #[.slice A n c] w fun e w' => e = .returned (.int .i64 n) ∧ w = w' := by
  go_enter Try.func54, Try.ntmps54
  go_wp2
  go_ret
  exact ⟨rfl, rfl⟩
set_option maxHeartbeats 400000 in
theorem items_Less (g n c i j : Nat) (w : World) (ki kj : Int) (hi : i < n) (hj : j < n) (hn : n < 4611686018427387904)
    (ci : w.cell? ⟨g, i * 2, none⟩ = some (.int .i64 ki)) (cj : w.cell? ⟨g, j * 2, none⟩ = some (.int .i64 kj)) :
    Calls Try.prog 55 #[.slice (some ⟨g, 0, none⟩) n c, .int .i64 i, .int .i64 j] w fun e w' => e = .returned (.bool (decide (ki < kj))) ∧ ∃ q, w' = w.drewN q := by
  go_enter Try.func55, Try.ntmps55
  go_wp2
  go_quiet (fail)
  go_wp2
  go_ret
  exact ⟨rfl, nq, rfl⟩
set_option maxHeartbeats 400000 in
theorem items_Swap (g n c i j : Nat) (w : World) (ki ti kj tj : Int) (hi : i < n) (hj : j < n) (hn : n < 4611686018427387904)
    (ci : w.cell? ⟨g, i * 2, none⟩ = some (.int .i64 ki)) (cj : w.cell? ⟨g, j * 2, none⟩ = some (.int .i64 kj))
    (di : w.cell? ⟨g, i * 2 + 1, none⟩ = some (.int .i64 ti)) (dj : w.cell? ⟨g, j * 2 + 1, none⟩ = some (.int .i64 tj))
    (hf : ∀ o, w.frozen? ⟨g, o, none⟩ = false) :
    Calls Try.prog 56 #[.slice (some ⟨g, 0, none⟩) n c, .int .i64 i, .int .i64 j] w fun e w' => e = .returned (.tuple #[]) ∧
      ∃ q, w' = ((((w.setCell ⟨g, i * 2, none⟩ (.int .i64 kj)).setCell ⟨g, i * 2 + 1, none⟩ (.int .i64 tj)).setCell ⟨g, j * 2, none⟩ (.int .i64 ki)).setCell ⟨g, j * 2 + 1, none⟩ (.int .i64 ti)).drewN q := by
  obtain ⟨v1, hy1⟩ := cell?_setCell_some (w := w) (p := ⟨g, i * 2, none⟩) (x := .int .i64 kj) (q := ⟨g, j * 2, none⟩) cj
  obtain ⟨v0, hy0⟩ := cell?_setCell_some (w := w) (p := ⟨g, i * 2, none⟩) (x := .int .i64 kj) (q := ⟨g, j * 2 + 1, none⟩) dj
  obtain ⟨v2, hy2⟩ := cell?_setCell_some (w := w.setCell ⟨g, i * 2, none⟩ (.int .i64 kj)) (p := ⟨g, i * 2 + 1, none⟩) (x := .int .i64 tj) (q := ⟨g, j * 2 + 1, none⟩) hy0
  clear hy0
  go_enter Try.func56, Try.ntmps56
  go_wp2
  go_region
  all_goals (try go_wp2)
  all_goals go_end0
  all_goals exact ⟨rfl, 1, rfl⟩

/-- The heap of items in memory. -/
abbrev ItemsAt := HeapAt 46 36 2 ics []

theorem items_impl (K : Nat → Prop) (w0 : World) (a C : Nat) (N : Nat) (hN : N < 4611686018427387904) :
    Impl Try.prog 52 (.pointer (some ⟨a, 0, none⟩)) (listM klt) (fun xs w => ItemsAt K w0 a xs w ∧ xs.length ≤ N) (C + 1) := by
  refine ⟨listM_fair _, ?_, ?_, ?_⟩
  · rintro xs w ⟨h, hl⟩
    obtain ⟨A, c, hb, ho, hK⟩ := h.hdr
    refine ⟨_, _, (items_find_Len _ w).trans (run_load_pair _ (hb.cell 0)), fun _ _ => by kernel_rfl, ?_⟩
    refine (items_Len A xs.length c w).mono ?_
    rintro e w' ⟨rfl, rfl⟩
    exact ⟨rfl, h, hl⟩
  · rintro xs w i j ⟨h, hl⟩ hi hj _
    obtain ⟨A, c, hb, ho, hK⟩ := h.hdr
    have hi' : i < xs.length := hi
    have hj' : j < xs.length := hj
    obtain ⟨g, cap, hv, _⟩ := ho.form (by omega)
    obtain ⟨rfl, rfl⟩ : A = some ⟨g, 0, none⟩ ∧ c = cap := by simpa using hv
    refine ⟨_, _, (items_find_Less _ w).trans (run_load_pair _ (hb.cell 0)), fun _ _ => by kernel_rfl, ?_⟩
    refine (items_Less g xs.length c i j w xs[i].1 xs[j].1 hi' hj' (by omega) ?_ ?_).mono ?_
    · rw [ho.cellAt _ (by omega)]; exact ics_key _ _ hi'
    · rw [ho.cellAt _ (by omega)]; exact ics_key _ _ hj'
    rintro e w' ⟨rfl, q, rfl⟩
    exact ⟨by rw [listM_less _ hi' hj']; rfl, h.drewN q, hl⟩
  · rintro xs w i j ⟨h, hl⟩ hi hj _
    obtain ⟨A, c, hb, ho, hK⟩ := h.hdr
    have hi' : i < xs.length := hi
    have hj' : j < xs.length := hj
    obtain ⟨g, cap, hv, _⟩ := ho.form (by omega)
    obtain ⟨rfl, rfl⟩ : A = some ⟨g, 0, none⟩ ∧ c = cap := by simpa using hv
    have hne := own_blk_ne ho hb (by decide)
    refine ⟨_, _, (items_find_Swap _ w).trans (run_load_pair _ (hb.cell 0)), fun _ _ => by kernel_rfl, ?_⟩
    refine (items_Swap g xs.length c i j w xs[i].1 xs[i].2 xs[j].1 xs[j].2 hi' hj' (by omega) ?_ ?_ ?_ ?_ ?_).mono ?_
    · rw [ho.cellAt _ (by omega)]; exact ics_key _ _ hi'
    · rw [ho.cellAt _ (by omega)]; exact ics_key _ _ hj'
    · rw [ho.cellAt _ (by omega)]; exact ics_tag _ _ hi'
    · rw [ho.cellAt _ (by omega)]; exact ics_tag _ _ hj'
    · exact fun o => ho.frozenAt o
    rintro e w' ⟨rfl, q, rfl⟩
    have hag : a ≠ g := fun e => hne (by simp [Value.ownBlock, e])
    have hKg : ¬ K g := hK g rfl
    refine ⟨rfl, HeapAt.drewN ⟨?_, h.klt, h.na, some ⟨g, 0, none⟩, c, ?_, ?_, ?_⟩ q, by simpa [listM] using hl⟩
    · exact (((h.kept.setCell hKg _).setCell hKg _).setCell hKg _).setCell hKg _
    · rw [show ((listM klt).swap xs i j).length = xs.length from length_swp _ _ _]
      exact (((hb.far (p := ⟨g, _, none⟩) hag _).far (p := ⟨g, _, none⟩) hag _).far (p := ⟨g, _, none⟩) hag _).far (p := ⟨g, _, none⟩) hag _
    · rw [show ((listM klt).swap xs i j).length = xs.length from length_swp _ _ _]
      exact own_swap2 ho hi' hj'
    · intro g' hg'; exact hK g' hg'
end Go.Proofs.Ytpglibneflefgaa
