/- The heap of strings: its methods, for any block that holds the header in its first cell; heap.Pop, heap.Push over the plain one. -/
import Derived.Test.YtibdaodneipmjaaStrs
import Derived.Test.YtibdaodneipmjaaHeap
import Derived.Deep.RegionLaw
import Derived.Deep.QuietTactic
import Derived.BigQuiet
namespace Go.Proofs.Ytibdaodneipmjaa
set_option linter.unusedVariables false
open Go.RowKit

theorem texts_load {P : Program} {w : World} {a : Addr} {v : Value} (f : FuncId) (h : w.cell? a = some v) : (do let v ← load a; pure (f, v) : Sem (FuncId × Value)).run P w = .ok (f, v) w := by
  simp [go_sem, h]
theorem assert_texts (v : Value) (w : World) : (Instr.typeAssert (.iface 9 v) 20 9 false).run Try.prog w = .ok v w := by kernel_rfl
theorem texts_at {l : List ByteArray} {i : Nat} (h : i < l.length) : (l.map Value.string)[i]? = some (Value.string l[i]) := by simp [h]

set_option maxHeartbeats 400000 in
theorem texts_Len (A : Option Addr) (n c : Nat) (w : World) : Calls Try.prog 69 #[.slice A n c] w fun e w' => e = .returned (.int .i64 n) ∧ w = w' := by
  go_enter Try.func69, Try.ntmps69
  go_wp2
  go_ret
  exact ⟨rfl, rfl⟩
set_option maxHeartbeats 400000 in
theorem texts_Less (g n c i j : Nat) (w : World) (x y : ByteArray) (hi : i < n) (hj : j < n) (hn : n < 4611686018427387904)
    (ci : w.cell? ⟨g, i, none⟩ = some (Value.string x)) (cj : w.cell? ⟨g, j, none⟩ = some (Value.string y)) :
    Calls Try.prog 70 #[.slice (some ⟨g, 0, none⟩) n c, .int .i64 i, .int .i64 j] w fun e w' => e = .returned (.bool (tlt x y)) ∧ ∃ q, w' = w.drewN q := by
  go_enter Try.func70, Try.ntmps70
  go_wp2
  go_quiet (fail)
  go_wp2
  go_ret
  exact ⟨rfl, nq, rfl⟩
set_option maxHeartbeats 400000 in
theorem texts_Swap (g n c i j : Nat) (w : World) (x y : ByteArray) (hi : i < n) (hj : j < n) (hn : n < 4611686018427387904)
    (ci : w.cell? ⟨g, i, none⟩ = some (Value.string x)) (cj : w.cell? ⟨g, j, none⟩ = some (Value.string y))
    (hf : ∀ o, w.frozen? ⟨g, o, none⟩ = false) :
    Calls Try.prog 71 #[.slice (some ⟨g, 0, none⟩) n c, .int .i64 i, .int .i64 j] w fun e w' => e = .returned (.tuple #[]) ∧
      ∃ q, w' = ((w.setCell ⟨g, i, none⟩ (Value.string y)).setCell ⟨g, j, none⟩ (Value.string x)).drewN q := by
  obtain ⟨v1, hy1⟩ := cell?_setCell_some (w := w) (p := ⟨g, i, none⟩) (x := Value.string y) (q := ⟨g, j, none⟩) cj
  go_enter Try.func71, Try.ntmps71
  go_wp2
  go_region
  all_goals (try go_wp2)
  all_goals go_end0
  all_goals exact ⟨rfl, 1, rfl⟩
set_option maxHeartbeats 400000 in
theorem texts_Pop_walk (a g n c : Nat) (w : World) (x : ByteArray) (hn : n < 4611686018427387904) (hnc : n + 1 ≤ c)
    (ha : a < w.heap.size) (hg : g < w.heap.size)
    (hh : w.cell? ⟨a, 0, none⟩ = some (.slice (some ⟨g, 0, none⟩) (n + 1) c)) (hf : w.frozen? ⟨a, 0, none⟩ = false)
    (ck : w.cell? ⟨g, n, none⟩ = some (Value.string x)) :
    Calls Try.prog 72 #[.pointer (some ⟨a, 0, none⟩)] w fun e w' => e = .returned (.iface 9 (Value.string x)) ∧
      w' = w.setCell ⟨a, 0, none⟩ (.slice (some ⟨g, 0, none⟩) n c) := by
  go_enter Try.func72, Try.ntmps72
  go_wp2
  go_ret
  exact ⟨rfl, rfl⟩

section
variable {TH : TypeId} {ex : List Value} {K : Nat → Prop} {w0 : World} {a : Nat} {w : World}
abbrev TextsAt (TH : TypeId) (ex : List Value) := HeapAt (α := ByteArray) TH 9 1 (List.map Value.string) ex
theorem texts_len_at {xs : List ByteArray} (h : TextsAt TH ex K w0 a xs w) {N : Nat} (hl : xs.length ≤ N) {T : TypeId} {rv : Value}
    (hm : ∀ v, w.cell? ⟨a, 0, none⟩ = some v → (method (Try.prog.types.size + Made.depth) T rv "Len").run Try.prog w = .ok (69, v) w) (lt : ByteArray → ByteArray → Bool) :
    Meth Try.prog T rv "Len" #[] w fun e w' => e = .returned (.int .i64 ((listM lt).len xs)) ∧ TextsAt TH ex K w0 a xs w' ∧ xs.length ≤ N := by
  obtain ⟨A, c, hb, ho, hK⟩ := h.hdr
  refine ⟨_, _, hm _ (hb.cell 0), fun _ _ => by kernel_rfl, ?_⟩
  refine (texts_Len A xs.length c w).mono ?_
  rintro e w' ⟨rfl, rfl⟩
  exact ⟨rfl, h, hl⟩
theorem texts_swap_at {xs : List ByteArray} (h : TextsAt TH ex K w0 a xs w) (hT : 9 ≠ TH) {N : Nat} (hl : xs.length ≤ N) (hN : N < 4611686018427387904) {T : TypeId} {rv : Value}
    (hm : ∀ v, w.cell? ⟨a, 0, none⟩ = some v → (method (Try.prog.types.size + Made.depth) T rv "Swap").run Try.prog w = .ok (71, v) w) (lt : ByteArray → ByteArray → Bool) {i j : Nat} (hi : i < (listM lt).len xs) (hj : j < (listM lt).len xs) :
    Meth Try.prog T rv "Swap" #[.int .i64 i, .int .i64 j] w fun e w' => e = .returned (.tuple #[]) ∧ TextsAt TH ex K w0 a ((listM lt).swap xs i j) w' ∧ ((listM lt).swap xs i j).length ≤ N := by
  obtain ⟨A, c, hb, ho, hK⟩ := h.hdr
  have hi' : i < xs.length := hi
  have hj' : j < xs.length := hj
  obtain ⟨g, cap, hv, _⟩ := ho.form (by omega)
  obtain ⟨rfl, rfl⟩ : A = some ⟨g, 0, none⟩ ∧ c = cap := by simpa using hv
  have hne := own_blk_ne ho hb hT
  refine ⟨_, _, hm _ (hb.cell 0), fun _ _ => by kernel_rfl, ?_⟩
  refine (texts_Swap g xs.length c i j w xs[i] xs[j] hi' hj' (by omega) ?_ ?_ ?_).mono ?_
  · rw [ho.cellAt _ (by omega)]; exact texts_at hi'
  · rw [ho.cellAt _ (by omega)]; exact texts_at hj'
  · exact fun o => ho.frozenAt o
  rintro e w' ⟨rfl, q, rfl⟩
  have hag : a ≠ g := fun e => hne (by simp [Value.ownBlock, e])
  have hKg : ¬ K g := hK g rfl
  refine ⟨rfl, HeapAt.drewN ⟨?_, h.klt, h.na, some ⟨g, 0, none⟩, c, ?_, ?_, ?_⟩ q, by simpa [listM] using hl⟩
  · exact (h.kept.setCell hKg _).setCell hKg _
  · rw [show ((listM lt).swap xs i j).length = xs.length from length_swp _ _ _]
    exact (hb.far (p := ⟨g, _, none⟩) hag _).far (p := ⟨g, _, none⟩) hag _
  · rw [show ((listM lt).swap xs i j).length = xs.length from length_swp _ _ _]
    exact one_swap ho hi' hj'
  · intro g' hg'; exact hK g' hg'
theorem texts_pop_at {xs : List ByteArray} (h : TextsAt TH ex K w0 a xs w) (hT : 9 ≠ TH) {n : Nat} (hx : xs.length = n + 1) (hn : n < 4611686018427387904) {T : TypeId} {rv : Value}
    (hm : (method (Try.prog.types.size + Made.depth) T rv "Pop").run Try.prog w = .ok (72, .pointer (some ⟨a, 0, none⟩)) w) :
    Meth Try.prog T rv "Pop" #[] w fun e w' => e = .returned (.iface 9 (Value.string (at_ ByteArray.empty xs n))) ∧ TextsAt TH ex K w0 a (xs.take n) w' := by
  obtain ⟨A, c, hb, ho, hK⟩ := h.hdr
  obtain ⟨g, cap, hv, _, hlt⟩ := ho.form (by omega)
  obtain ⟨rfl, rfl⟩ : A = some ⟨g, 0, none⟩ ∧ c = cap := by simpa using hv
  have hnl : n < xs.length := by omega
  rw [hx] at hb ho
  refine ⟨_, _, hm, fun _ _ => by kernel_rfl, ?_⟩
  refine (texts_Pop_walk a g n c w (at_ ByteArray.empty xs n) hn (own_cap ho) hb.lt hlt (hb.cell 0) (hb.frozen 0) ?_).mono ?_
  · rw [ho.cellAt _ (by omega), at_get _ hnl]; exact texts_at hnl
  rintro e w' ⟨rfl, rfl⟩
  refine ⟨rfl, h.kept.setCell h.na _, h.klt, h.na, some ⟨g, 0, none⟩, c, ?_, ?_, ?_⟩
  · rw [show (xs.take n).length = n by rw [List.length_take]; omega]
    exact hb.set_ 0 _
  · rw [show (xs.take n).length = n by rw [List.length_take]; omega, List.map_take]
    have h1 := own_shrink ho
    rw [Nat.mul_one] at h1
    exact own_setCell_other h1 (own_blk_ne h1 hb hT) _
  · intro g' hg'
    exact hK g' hg'
end

section
theorem texts_find_Len (a : Addr) (w : World) : (method (Try.prog.types.size + Made.depth) 43 (.pointer (some a)) "Len").run Try.prog w = (do let v ← load a; pure (69, v) : Sem (FuncId × Value)).run Try.prog w := by kernel_rfl
theorem texts_find_Less (a : Addr) (w : World) : (method (Try.prog.types.size + Made.depth) 43 (.pointer (some a)) "Less").run Try.prog w = (do let v ← load a; pure (70, v) : Sem (FuncId × Value)).run Try.prog w := by kernel_rfl
theorem texts_find_Swap (a : Addr) (w : World) : (method (Try.prog.types.size + Made.depth) 43 (.pointer (some a)) "Swap").run Try.prog w = (do let v ← load a; pure (71, v) : Sem (FuncId × Value)).run Try.prog w := by kernel_rfl
theorem texts_find_Pop (a : Addr) (w : World) : (method (Try.prog.types.size + Made.depth) 43 (.pointer (some a)) "Pop").run Try.prog w = .ok (72, .pointer (some a)) w := by kernel_rfl
theorem texts_find_Push (a : Addr) (w : World) : (method (Try.prog.types.size + Made.depth) 43 (.pointer (some a)) "Push").run Try.prog w = .ok (73, .pointer (some a)) w := by kernel_rfl
end
theorem texts_impl (K : Nat → Prop) (w0 : World) (a C : Nat) (N : Nat) (hN : N < 4611686018427387904) :
    Impl Try.prog 43 (.pointer (some ⟨a, 0, none⟩)) (listM tlt) (fun xs w => TextsAt 42 [] K w0 a xs w ∧ xs.length ≤ N) (C + 1) := by
  refine ⟨listM_fair _, ?_, ?_, ?_⟩
  · rintro xs w ⟨h, hl⟩
    exact texts_len_at h hl (fun v hv => (texts_find_Len _ w).trans (texts_load _ hv)) tlt
  · rintro xs w i j ⟨h, hl⟩ hi hj _
    obtain ⟨A, c, hb, ho, hK⟩ := h.hdr
    have hi' : i < xs.length := hi
    have hj' : j < xs.length := hj
    obtain ⟨g, cap, hv, _⟩ := ho.form (by omega)
    obtain ⟨rfl, rfl⟩ : A = some ⟨g, 0, none⟩ ∧ c = cap := by simpa using hv
    refine ⟨_, _, (texts_find_Less _ w).trans (texts_load _ (hb.cell 0)), fun _ _ => by kernel_rfl, ?_⟩
    refine (texts_Less g xs.length c i j w xs[i] xs[j] hi' hj' (by omega) ?_ ?_).mono ?_
    · rw [ho.cellAt _ (by omega)]; exact texts_at hi'
    · rw [ho.cellAt _ (by omega)]; exact texts_at hj'
    rintro e w' ⟨rfl, q, rfl⟩
    exact ⟨by rw [listM_less _ hi' hj'], h.drewN q, hl⟩
  · rintro xs w i j ⟨h, hl⟩ hi hj _
    exact texts_swap_at h (by decide) hl hN (fun v hv => (texts_find_Swap _ w).trans (texts_load _ hv)) tlt hi hj
/-- heap.Pop over the heap. -/
theorem texts_heapPop (K : Nat → Prop) (w0 : World) (a : Nat) (l : List ByteArray) (w : World) (h : TextsAt 42 [] K w0 a l w) (h0 : 0 < l.length) (hn : l.length < 4611686018427387904) :
    Calls Try.prog 38 #[.iface 43 (.pointer (some ⟨a, 0, none⟩))] w fun e w' => e = .returned (.iface 9 (Value.string (popTop tlt ByteArray.empty l))) ∧ TextsAt 42 [] K w0 a (popRest tlt l) w' := by
  refine pop_any (texts_impl K w0 a (3 * l.length) l.length hn) l w (l.length - 1) _ _ ⟨h, Nat.le_refl _⟩ (by show l.length = _; omega) (by omega) (by show 0 + _ + 1 ≤ _; omega) ?_
  rintro w1 ⟨h1, _⟩
  exact texts_pop_at h1 (by decide) (by show (popAll tlt l).length = _; rw [popAll_length]; omega) (by omega) (texts_find_Pop _ _)

set_option maxHeartbeats 400000 in
theorem texts_Push (K : Nat → Prop) (w0 : World) (a : Nat) (xs : List ByteArray) (x : ByteArray) (w : World) (h : TextsAt 42 [] K w0 a xs w) (hn : (xs.length + 1) * 16 ≤ 140737488355328) :
    Calls Try.prog 73 #[.pointer (some ⟨a, 0, none⟩), .iface 9 (Value.string x)] w fun e w' => e = .returned (.tuple #[]) ∧ TextsAt 42 [] K w0 a (xs ++ [x]) w' := by
  obtain ⟨i0, hi, hz0, hz1, hz2⟩ := info_parts info_text
  obtain ⟨A, c, hb, hown, hK⟩ := h.hdr
  have HK := Lib.hid hK
  have hh : w.cell? ⟨a, 0, none⟩ = some (.slice A xs.length c) := hb.cell 0
  have hf : w.frozen? ⟨a, 0, none⟩ = false := hb.frozen 0
  have ha : a < w.heap.size := hb.lt
  have HH := Lib.hid h
  have HB := Lib.hid hb
  have HO := Lib.hid hown
  clear hb hown h hK
  have hta := assert_texts (Value.string x)
  go_enter Try.func73, Try.ntmps73
  go_wp2
  go_region_law ((
                   (refine step_append_row _ rfl (.tmp 7) (.tmp 10) 42 rfl 0 9 i0 _ 1 16 Try.underlying42 hi hz0 hz1 hz2 rfl (by decide) (.slice A xs.length c) xs.length (xs.map Value.string) rfl ?_ (w.heap.size + 1) (some ⟨w.heap.size, 0, none⟩) 1 1 [Value.string x] rfl ?_ ?_ ?_ ?_ ?_ ?_)
                   · exact (HO.out.alloc _).drew
                   · exact (sees_new rfl).drew
                   · exact one_text _
                   · unfold maxLen; omega
                   · exact hn
                   · exact Nat.zero_le _
                   intro A' c' w1 hown1 hgr1 hat1
                   have hb1 : Blk w1 a 42 #[.slice A xs.length c] := (HB.out.alloc _).drew.grown hgr1 (fun e => own_blk_ne HO.out HB.out (by decide) e.symm)
                   have hh1 : w1.cell? ⟨a, 0, none⟩ = some (.slice A xs.length c) := hb1.cell 0
                   have hf1 : w1.frozen? ⟨a, 0, none⟩ = false := hb1.frozen 0
                   have HB1 := Lib.hid hb1
                   have HO1 := Lib.hid hown1
                   have HL1 := Lib.hid (((HH.out.kept.alloc HH.out.klt _).drew).grown hgr1 HH.out.klt (fun g hg => HK.out g hg))
                   have HK1 := Lib.hid (show ∀ g, (Value.slice A' (xs.length + 1) c').ownBlock = some g → ¬ K g from fun g hg => by
                     rcases hat1 with e | e
                     · exact HK.out g (e ▸ hg)
                     · intro hk
                       have h1 := HH.out.klt g hk
                       have h2 := HH.out.kept.size
                       rw [e] at hg
                       simp at hg
                       omega)
                   clear hb1 hown1 hgr1 hat1))
  all_goals go_end0
  all_goals refine ⟨rfl, HL1.out.setCell HH.out.na _, HH.out.klt, HH.out.na, A', c', ?_, ?_, ?_⟩
  all_goals rw [show (xs ++ [x]).length = xs.length + 1 by simp]
  all_goals first | exact HB1.out.set_ 0 _ | exact HK1.out | (rw [List.map_append]; exact own_setCell_other HO1.out (own_blk_ne HO1.out HB1.out (by decide)) _)
/-- heap.Push over the heap. -/
theorem texts_heapPush (K : Nat → Prop) (w0 : World) (a : Nat) (l : List ByteArray) (x : ByteArray) (w : World) (h : TextsAt 42 [] K w0 a l w) (hn : (l.length + 1) * 16 ≤ 140737488355328) :
    Calls Try.prog 39 #[.iface 43 (.pointer (some ⟨a, 0, none⟩)), .iface 9 (Value.string x)] w fun e w' => e = .returned (.tuple #[]) ∧ TextsAt 42 [] K w0 a (pushF tlt l x) w' := by
  refine (push_any (texts_impl K w0 a (2 * l.length) (l.length + 1) (by omega)) (l ++ [x]) w _ l.length ?_ (by show (l ++ [_]).length = _; simp) (by omega) (by show 0 + _ ≤ _; omega)).mono ?_
  · refine Meth.mono ⟨_, _, texts_find_Push _ w, fun _ _ => by kernel_rfl, texts_Push K w0 a l x w h hn⟩ ?_
    rintro e w' ⟨rfl, h1⟩
    exact ⟨rfl, h1, by simp⟩
  · rintro e w' ⟨rfl, h1, _⟩
    exact ⟨rfl, h1⟩

end Go.Proofs.Ytibdaodneipmjaa
