/- The heap of numbers: its methods, for any block that holds the header in its first cell; heap.Pop, heap.Push over the plain one. -/
import Derived.Test.YtjnlolidjbbddaaNums
import Derived.Test.YtjnlolidjbbddaaSorted
import Derived.Test.YtjnlolidjbbddaaHeap
import Derived.Deep.RegionLaw
import Derived.Deep.QuietTactic
import Derived.BigQuiet
namespace Go.Proofs.Ytjnlolidjbbddaa
set_option linter.unusedVariables false
open Go.RowKit

theorem ints_load {P : Program} {w : World} {a : Addr} {v : Value} (f : FuncId) (h : w.cell? a = some v) : (do let v ← load a; pure (f, v) : Sem (FuncId × Value)).run P w = .ok (f, v) w := by
  simp [go_sem, h]
theorem assert_ints (v : Value) (w : World) : (Instr.typeAssert (.iface 3 v) 20 3 false).run Try.prog w = .ok v w := by kernel_rfl
theorem ints_at {l : List Int} {i : Nat} (h : i < l.length) : (l.map (Value.int .i64))[i]? = some ((Value.int .i64) l[i]) := by simp [h]

set_option maxHeartbeats 400000 in
theorem ints_Len (A : Option Addr) (n c : Nat) (w : World) : Calls Try.prog 40 #[.slice A n c] w fun e w' => e = .returned (.int .i64 n) ∧ w = w' := by
  go_enter Try.func40, Try.ntmps40
  go_wp2
  go_ret
  exact ⟨rfl, rfl⟩
set_option maxHeartbeats 400000 in
theorem ints_Less (g n c i j : Nat) (w : World) (x y : Int) (hi : i < n) (hj : j < n) (hn : n < 4611686018427387904)
    (ci : w.cell? ⟨g, i, none⟩ = some ((Value.int .i64) x)) (cj : w.cell? ⟨g, j, none⟩ = some ((Value.int .i64) y)) :
    Calls Try.prog 41 #[.slice (some ⟨g, 0, none⟩) n c, .int .i64 i, .int .i64 j] w fun e w' => e = .returned (.bool (ilt x y)) ∧ ∃ q, w' = w.drewN q := by
  go_enter Try.func41, Try.ntmps41
  go_wp2
  go_quiet (fail)
  go_wp2
  go_ret
  exact ⟨rfl, nq, rfl⟩
set_option maxHeartbeats 400000 in
theorem ints_Swap (g n c i j : Nat) (w : World) (x y : Int) (hi : i < n) (hj : j < n) (hn : n < 4611686018427387904)
    (ci : w.cell? ⟨g, i, none⟩ = some ((Value.int .i64) x)) (cj : w.cell? ⟨g, j, none⟩ = some ((Value.int .i64) y))
    (hf : ∀ o, w.frozen? ⟨g, o, none⟩ = false) :
    Calls Try.prog 42 #[.slice (some ⟨g, 0, none⟩) n c, .int .i64 i, .int .i64 j] w fun e w' => e = .returned (.tuple #[]) ∧
      ∃ q, w' = ((w.setCell ⟨g, i, none⟩ ((Value.int .i64) y)).setCell ⟨g, j, none⟩ ((Value.int .i64) x)).drewN q := by
  obtain ⟨v1, hy1⟩ := cell?_setCell_some (w := w) (p := ⟨g, i, none⟩) (x := (Value.int .i64) y) (q := ⟨g, j, none⟩) cj
  go_enter Try.func42, Try.ntmps42
  go_wp2
  go_region
  all_goals (try go_wp2)
  all_goals go_end0
  all_goals exact ⟨rfl, 1, rfl⟩
set_option maxHeartbeats 400000 in
theorem ints_Pop_walk (a g n c : Nat) (w : World) (x : Int) (hn : n < 4611686018427387904) (hnc : n + 1 ≤ c)
    (ha : a < w.heap.size) (hg : g < w.heap.size)
    (hh : w.cell? ⟨a, 0, none⟩ = some (.slice (some ⟨g, 0, none⟩) (n + 1) c)) (hf : w.frozen? ⟨a, 0, none⟩ = false)
    (ck : w.cell? ⟨g, n, none⟩ = some ((Value.int .i64) x)) :
    Calls Try.prog 43 #[.pointer (some ⟨a, 0, none⟩)] w fun e w' => e = .returned (.iface 3 ((Value.int .i64) x)) ∧
      w' = w.setCell ⟨a, 0, none⟩ (.slice (some ⟨g, 0, none⟩) n c) := by
  go_enter Try.func43, Try.ntmps43
  go_wp2
  go_ret
  exact ⟨rfl, rfl⟩

section
variable {TH : TypeId} {ex : List Value} {K : Nat → Prop} {w0 : World} {a : Nat} {w : World}
abbrev IntsAt (TH : TypeId) (ex : List Value) := HeapAt (α := Int) TH 3 1 (List.map (Value.int .i64)) ex
theorem ints_len_at {xs : List Int} (h : IntsAt TH ex K w0 a xs w) {N : Nat} (hl : xs.length ≤ N) {T : TypeId} {rv : Value}
    (hm : ∀ v, w.cell? ⟨a, 0, none⟩ = some v → (method (Try.prog.types.size + Made.depth) T rv "Len").run Try.prog w = .ok (40, v) w) (lt : Int → Int → Bool) :
    Meth Try.prog T rv "Len" #[] w fun e w' => e = .returned (.int .i64 ((listM lt).len xs)) ∧ IntsAt TH ex K w0 a xs w' ∧ xs.length ≤ N := by
  obtain ⟨A, c, hb, ho, hK⟩ := h.hdr
  refine ⟨_, _, hm _ (hb.cell 0), fun _ _ => by kernel_rfl, ?_⟩
  refine (ints_Len A xs.length c w).mono ?_
  rintro e w' ⟨rfl, rfl⟩
  exact ⟨rfl, h, hl⟩
theorem ints_swap_at {xs : List Int} (h : IntsAt TH ex K w0 a xs w) (hT : 3 ≠ TH) {N : Nat} (hl : xs.length ≤ N) (hN : N < 4611686018427387904) {T : TypeId} {rv : Value}
    (hm : ∀ v, w.cell? ⟨a, 0, none⟩ = some v → (method (Try.prog.types.size + Made.depth) T rv "Swap").run Try.prog w = .ok (42, v) w) (lt : Int → Int → Bool) {i j : Nat} (hi : i < (listM lt).len xs) (hj : j < (listM lt).len xs) :
    Meth Try.prog T rv "Swap" #[.int .i64 i, .int .i64 j] w fun e w' => e = .returned (.tuple #[]) ∧ IntsAt TH ex K w0 a ((listM lt).swap xs i j) w' ∧ ((listM lt).swap xs i j).length ≤ N := by
  obtain ⟨A, c, hb, ho, hK⟩ := h.hdr
  have hi' : i < xs.length := hi
  have hj' : j < xs.length := hj
  obtain ⟨g, cap, hv, _⟩ := ho.form (by omega)
  obtain ⟨rfl, rfl⟩ : A = some ⟨g, 0, none⟩ ∧ c = cap := by simpa using hv
  have hne := own_blk_ne ho hb hT
  refine ⟨_, _, hm _ (hb.cell 0), fun _ _ => by kernel_rfl, ?_⟩
  refine (ints_Swap g xs.length c i j w xs[i] xs[j] hi' hj' (by omega) ?_ ?_ ?_).mono ?_
  · rw [ho.cellAt _ (by omega)]; exact ints_at hi'
  · rw [ho.cellAt _ (by omega)]; exact ints_at hj'
  · exact fun o => ho.frozenAt o
  rintro e w' ⟨rfl, q, rfl⟩
  have hag : a ≠ g := fun e => hne (by simp [Value.ownBlock, e])
  have hKg : ¬ K g := hK g rfl
  refine ⟨rfl, HeapAt.drewN ⟨?_, h.klt, h.na, some ⟨g, 0, none⟩, c, ?_, ?_, ?_⟩ q, by simpa [listM] using hl⟩
  · exact (h.kept.setCell hKg _).setCell hKg _
  · rw [show ((listM lt).swap xs i j).length = xs.length from length_swp _ _ _]
    exact (hb.far (p := ⟨g, _, none⟩) hag _).far (p := ⟨g, _, none⟩) hag _
  · rw [show ((listM lt).swap xs i j).length = xs.length from length_swp _ _ _]
    exact one_swap ho hi' hj'
  · intro g' hg'; exact hK g' hg'
theorem ints_pop_at {xs : List Int} (h : IntsAt TH ex K w0 a xs w) (hT : 3 ≠ TH) {n : Nat} (hx : xs.length = n + 1) (hn : n < 4611686018427387904) {T : TypeId} {rv : Value}
    (hm : (method (Try.prog.types.size + Made.depth) T rv "Pop").run Try.prog w = .ok (43, .pointer (some ⟨a, 0, none⟩)) w) :
    Meth Try.prog T rv "Pop" #[] w fun e w' => e = .returned (.iface 3 ((Value.int .i64) (at_ 0 xs n))) ∧ IntsAt TH ex K w0 a (xs.take n) w' := by
  obtain ⟨A, c, hb, ho, hK⟩ := h.hdr
  obtain ⟨g, cap, hv, _, hlt⟩ := ho.form (by omega)
  obtain ⟨rfl, rfl⟩ : A = some ⟨g, 0, none⟩ ∧ c = cap := by simpa using hv
  have hnl : n < xs.length := by omega
  rw [hx] at hb ho
  refine ⟨_, _, hm, fun _ _ => by kernel_rfl, ?_⟩
  refine (ints_Pop_walk a g n c w (at_ 0 xs n) hn (own_cap ho) hb.lt hlt (hb.cell 0) (hb.frozen 0) ?_).mono ?_
  · rw [ho.cellAt _ (by omega), at_get _ hnl]; exact ints_at hnl
  rintro e w' ⟨rfl, rfl⟩
  refine ⟨rfl, h.kept.setCell h.na _, h.klt, h.na, some ⟨g, 0, none⟩, c, ?_, ?_, ?_⟩
  · rw [show (xs.take n).length = n by rw [List.length_take]; omega]
    exact hb.set_ 0 _
  · rw [show (xs.take n).length = n by rw [List.length_take]; omega, List.map_take]
    have h1 := own_shrink ho
    rw [Nat.mul_one] at h1
    exact own_setCell_other h1 (own_blk_ne h1 hb hT) _
  · intro g' hg'
    exact hK g' hg'
end

section
theorem ints_find_Len (a : Addr) (w : World) : (method (Try.prog.types.size + Made.depth) 33 (.pointer (some a)) "Len").run Try.prog w = (do let v ← load a; pure (40, v) : Sem (FuncId × Value)).run Try.prog w := by kernel_rfl
theorem ints_find_Less (a : Addr) (w : World) : (method (Try.prog.types.size + Made.depth) 33 (.pointer (some a)) "Less").run Try.prog w = (do let v ← load a; pure (41, v) : Sem (FuncId × Value)).run Try.prog w := by kernel_rfl
theorem ints_find_Swap (a : Addr) (w : World) : (method (Try.prog.types.size + Made.depth) 33 (.pointer (some a)) "Swap").run Try.prog w = (do let v ← load a; pure (42, v) : Sem (FuncId × Value)).run Try.prog w := by kernel_rfl
theorem ints_find_Pop (a : Addr) (w : World) : (method (Try.prog.types.size + Made.depth) 33 (.pointer (some a)) "Pop").run Try.prog w = .ok (43, .pointer (some a)) w := by kernel_rfl
theorem ints_find_Push (a : Addr) (w : World) : (method (Try.prog.types.size + Made.depth) 33 (.pointer (some a)) "Push").run Try.prog w = .ok (46, .pointer (some a)) w := by kernel_rfl
end
theorem ints_impl (K : Nat → Prop) (w0 : World) (a C : Nat) (N : Nat) (hN : N < 4611686018427387904) :
    Impl Try.prog 33 (.pointer (some ⟨a, 0, none⟩)) (listM ilt) (fun xs w => IntsAt 32 [] K w0 a xs w ∧ xs.length ≤ N) (C + 1) := by
  refine ⟨listM_fair _, ?_, ?_, ?_⟩
  · rintro xs w ⟨h, hl⟩
    exact ints_len_at h hl (fun v hv => (ints_find_Len _ w).trans (ints_load _ hv)) ilt
  · rintro xs w i j ⟨h, hl⟩ hi hj _
    obtain ⟨A, c, hb, ho, hK⟩ := h.hdr
    have hi' : i < xs.length := hi
    have hj' : j < xs.length := hj
    obtain ⟨g, cap, hv, _⟩ := ho.form (by omega)
    obtain ⟨rfl, rfl⟩ : A = some ⟨g, 0, none⟩ ∧ c = cap := by simpa using hv
    refine ⟨_, _, (ints_find_Less _ w).trans (ints_load _ (hb.cell 0)), fun _ _ => by kernel_rfl, ?_⟩
    refine (ints_Less g xs.length c i j w xs[i] xs[j] hi' hj' (by omega) ?_ ?_).mono ?_
    · rw [ho.cellAt _ (by omega)]; exact ints_at hi'
    · rw [ho.cellAt _ (by omega)]; exact ints_at hj'
    rintro e w' ⟨rfl, q, rfl⟩
    exact ⟨by rw [listM_less _ hi' hj'], h.drewN q, hl⟩
  · rintro xs w i j ⟨h, hl⟩ hi hj _
    exact ints_swap_at h (by decide) hl hN (fun v hv => (ints_find_Swap _ w).trans (ints_load _ hv)) ilt hi hj
/-- heap.Pop over the heap. -/
theorem ints_heapPop (K : Nat → Prop) (w0 : World) (a : Nat) (l : List Int) (w : World) (h : IntsAt 32 [] K w0 a l w) (h0 : 0 < l.length) (hn : l.length < 4611686018427387904) :
    Calls Try.prog 15 #[.iface 33 (.pointer (some ⟨a, 0, none⟩))] w fun e w' => e = .returned (.iface 3 ((Value.int .i64) (popTop ilt 0 l))) ∧ IntsAt 32 [] K w0 a (popRest ilt l) w' := by
  refine pop_any (ints_impl K w0 a (3 * l.length) l.length hn) l w (l.length - 1) _ _ ⟨h, Nat.le_refl _⟩ (by show l.length = _; omega) (by omega) (by show 0 + _ + 1 ≤ _; omega) ?_
  rintro w1 ⟨h1, _⟩
  exact ints_pop_at h1 (by decide) (by show (popAll ilt l).length = _; rw [popAll_length]; omega) (by omega) (ints_find_Pop _ _)


end Go.Proofs.Ytjnlolidjbbddaa
