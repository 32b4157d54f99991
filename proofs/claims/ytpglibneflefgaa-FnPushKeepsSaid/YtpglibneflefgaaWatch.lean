/- The watched heap in memory: the items and the calls. Its methods Less and Swap. -/
import Derived.Test.YtpglibneflefgaaItems
import Derived.Test.YtpglibneflefgaaPops
namespace Go.Proofs.Ytpglibneflefgaa
set_option linter.unusedVariables false
open Go.RowKit
abbrev TW : TypeId := 48
abbrev TC : TypeId := 42
abbrev TI : TypeId := 36

/-- A call: its kind, the number of elements, and two numbers more. -/
structure Cal where
  kind : Int
  len : Int
  i : Int
  j : Int
def ccs : List Cal → List Value
  | [] => []
  | q :: r => .int .i64 q.kind :: .int .i64 q.len :: .int .i64 q.i :: .int .i64 q.j :: ccs r
@[simp] theorem ccs_length : ∀ l : List Cal, (ccs l).length = l.length * 4
  | [] => rfl
  | _ :: r => by simp [ccs, ccs_length r, Nat.add_mul]
theorem ccs_append : ∀ l m : List Cal, ccs (l ++ m) = ccs l ++ ccs m
  | [], _ => rfl
  | _ :: r, m => by simp [ccs, ccs_append r m]
theorem ccs_kind : ∀ (l : List Cal) (i : Nat) (h : i < l.length), (ccs l)[i * 4]? = some (.int .i64 l[i].kind)
  | _ :: _, 0, _ => rfl
  | _ :: r, i + 1, h => by rw [Nat.add_mul]; exact ccs_kind r i (by simpa using h)
theorem ccs_len : ∀ (l : List Cal) (i : Nat) (h : i < l.length), (ccs l)[i * 4 + 1]? = some (.int .i64 l[i].len)
  | _ :: _, 0, _ => rfl
  | _ :: r, i + 1, h => by rw [Nat.add_mul]; exact ccs_len r i (by simpa using h)
theorem ccs_i : ∀ (l : List Cal) (i : Nat) (h : i < l.length), (ccs l)[i * 4 + 2]? = some (.int .i64 l[i].i)
  | _ :: _, 0, _ => rfl
  | _ :: r, i + 1, h => by rw [Nat.add_mul]; exact ccs_i r i (by simpa using h)
theorem ccs_j : ∀ (l : List Cal) (i : Nat) (h : i < l.length), (ccs l)[i * 4 + 3]? = some (.int .i64 l[i].j)
  | _ :: _, 0, _ => rfl
  | _ :: r, i + 1, h => by rw [Nat.add_mul]; exact ccs_j r i (by simpa using h)
theorem four_cells (q : Cal) : ∀ u ∈ ccs [q], u.oneCell' = true := by
  intro u hu
  simp [ccs] at hu
  rcases hu with rfl | rfl | rfl | rfl <;> rfl
theorem info_call : (Try.prog.info? TC).map (fun i => (i.zero, i.size, i.bytes)) = some (some (.agg #[.int .i64 0, .int .i64 0, .int .i64 0, .int .i64 0]), 4, 32) := by kernel_rfl

abbrev WS := List (Int × Int) × List Cal
/-- In world w, in which the blocks of K are as they were in w0, block a (not in K) holds the headers of the items and of the calls. -/
structure WAt (K : Nat → Prop) (w0 : World) (a : Nat) (s : WS) (w : World) : Prop where
  kept : Kept K w0 w
  klt : ∀ k, K k → k < w0.heap.size
  na : ¬ K a
  hdr : ∃ A c A2 c2, Blk w a TW #[.slice A s.1.length c, .slice A2 s.2.length c2] ∧ w.ownsRow 0 TI 2 (.slice A s.1.length c) s.1.length (ics s.1) ∧ w.ownsRow 0 TC 4 (.slice A2 s.2.length c2) s.2.length (ccs s.2) ∧
    (∀ g, (Value.slice A s.1.length c).ownBlock = some g → ¬ K g) ∧ (∀ g, (Value.slice A2 s.2.length c2).ownBlock = some g → ¬ K g)

theorem own_own_ne {w : World} {b1 b2 : Nat} {e e' : TypeId} {s1 s2 n1 n2 : Nat} {v v' : Value} {xs ys : List Value} (h : w.ownsRow b1 e s1 v n1 xs) (h' : w.ownsRow b2 e' s2 v' n2 ys) (hne : e ≠ e') : v.ownBlock = none ∨ v.ownBlock ≠ v'.ownBlock := by
  cases hg : v.ownBlock with
  | none => exact .inl rfl
  | some g =>
    refine .inr fun hg' => ?_
    rcases h.2 with ⟨rfl, _⟩ | ⟨g1, cap, cur, rfl, _, hh, _⟩
    · simp [Value.ownBlock] at hg
    · rcases h'.2 with ⟨rfl, _⟩ | ⟨g2, cap', cur', rfl, _, hh', _⟩
      · simp [Value.ownBlock] at hg'
      · have e1 : g1 = g := by simpa [Value.ownBlock] using hg
        have e2 : g = g2 := by simpa [Value.ownBlock] using hg'
        subst e1 e2
        rw [hh] at hh'
        injection hh' with hh'
        injection hh' with _ ht
        exact hne ht

section
variable {K : Nat → Prop} {w0 : World} {a : Nat} {s : WS} {w : World}
theorem WAt.drewN (h : WAt K w0 a s w) (n : Nat) : WAt K w0 a s (w.drewN n) := ⟨h.kept.drewN n, h.klt, h.na, h.hdr⟩
theorem WAt.alloc (h : WAt K w0 a s w) (o : Obj) : WAt K w0 a s (w.alloc o) := by
  obtain ⟨h1, h2, h3, A, c, A2, c2, h4, h5, h6, h7, h8⟩ := h
  exact ⟨h1.alloc h2 o, h2, h3, A, c, A2, c2, h4.alloc o, h5.alloc o, h6.alloc o, h7, h8⟩
/-- One call more. -/
theorem wat_called {xs : List (Int × Int)} {cs : List Cal} {q : Cal} {A A2 A' : Option Addr} {c c2 c' : Nat} {w1 : World} {o : Obj} (h : WAt K w0 a (xs, cs) w)
    (hb : Blk w a TW #[.slice A xs.length c, .slice A2 cs.length c2]) (ho : w.ownsRow 0 TI 2 (.slice A xs.length c) xs.length (ics xs)) (hoc : w.ownsRow 0 TC 4 (.slice A2 cs.length c2) cs.length (ccs cs))
    (hK1 : ∀ g, (Value.slice A xs.length c).ownBlock = some g → ¬ K g) (hK2 : ∀ g, (Value.slice A2 cs.length c2).ownBlock = some g → ¬ K g)
    (hown : w1.ownsRow 0 TC 4 (.slice A' (cs.length + 1) c') (cs.length + 1) (ccs cs ++ ccs [q])) (hg : (w.alloc o).drew.grownBy w1 (Value.slice A2 cs.length c2).ownBlock)
    (hat : (Value.slice A' (cs.length + 1) c').ownBlock = (Value.slice A2 cs.length c2).ownBlock ∨ (Value.slice A' (cs.length + 1) c').ownBlock = some (w.alloc o).drew.heap.size) :
    WAt K w0 a (xs, cs ++ [q]) (w1.setCell ⟨a, 1, none⟩ (.slice A' (cs.length + 1) c')) ∧ (w1.setCell ⟨a, 1, none⟩ (.slice A' (cs.length + 1) c')).ownsRow 0 TI 2 (.slice A xs.length c) xs.length (ics xs) := by
  have hl : (cs ++ [q]).length = cs.length + 1 := by simp
  have hb1 : Blk w1 a TW #[.slice A xs.length c, .slice A2 cs.length c2] := (hb.alloc _).drew.grown hg (fun e => own_blk_ne hoc hb (by decide) e.symm)
  have ho1 : w1.ownsRow 0 TI 2 (.slice A xs.length c) xs.length (ics xs) := (ho.alloc o).drew.kept hg (own_own_ne ho hoc (by decide))
  refine ⟨⟨((h.kept.alloc h.klt o).drew.grown hg h.klt hK2).setCell h.na _, h.klt, h.na, A, c, A', c', ?_, own_setCell_other ho1 (own_blk_ne ho1 hb1 (by decide)) _, ?_, hK1, ?_⟩, own_setCell_other ho1 (own_blk_ne ho1 hb1 (by decide)) _⟩
  · show Blk _ a TW #[.slice A xs.length c, .slice A' (cs ++ [q]).length c']
    rw [hl]
    have h3 := hb1.set_ 1 (.slice A' (cs.length + 1) c')
    simpa using h3
  · show World.ownsRow _ 0 TC 4 (.slice A' (cs ++ [q]).length c') (cs ++ [q]).length (ccs (cs ++ [q]))
    rw [hl, ccs_append]
    exact own_setCell_other hown (own_blk_ne hown hb1 (by decide)) _
  · show ∀ g, (Value.slice A' (cs ++ [q]).length c').ownBlock = some g → ¬ K g
    rw [hl]
    intro g hgg
    rcases hat with e | e
    · exact hK2 g (e ▸ hgg)
    · intro hk
      have h1 := h.klt g hk
      have h2 := h.kept.size
      rw [e] at hgg
      simp [World.drew] at hgg
      omega
end

/-- Two items of the row change places. -/
theorem wat_swapped {K : Nat → Prop} {w0 : World} {a : Nat} {w : World} {xs : List (Int × Int)} {cs : List Cal} {g c : Nat} (h : WAt K w0 a (xs, cs) w) (ho : w.ownsRow 0 TI 2 (.slice (some ⟨g, 0, none⟩) xs.length c) xs.length (ics xs)) (hcell : w.cell? ⟨a, 0, none⟩ = some (.slice (some ⟨g, 0, none⟩) xs.length c)) {i j : Nat} (hi : i < xs.length) (hj : j < xs.length) :
    WAt K w0 a (swp xs i j, cs) ((((w.setCell ⟨g, i * 2, none⟩ (.int .i64 xs[j].1)).setCell ⟨g, i * 2 + 1, none⟩ (.int .i64 xs[j].2)).setCell ⟨g, j * 2, none⟩ (.int .i64 xs[i].1)).setCell ⟨g, j * 2 + 1, none⟩ (.int .i64 xs[i].2)) := by
  obtain ⟨A, c', A2, c2, hb, ho', hoc, hK1, hK2⟩ := h.hdr
  have e0 : some (Value.slice A xs.length c') = some (.slice (some ⟨g, 0, none⟩) xs.length c) := (hb.cell 0).symm.trans hcell
  obtain ⟨rfl, rfl⟩ : A = some ⟨g, 0, none⟩ ∧ c' = c := by simpa using e0
  have hag : a ≠ g := fun e => own_blk_ne ho hb (by decide) (by simp [Value.ownBlock, e])
  have hcg : (Value.slice A2 cs.length c2).ownBlock ≠ some g := fun e => by
    rcases own_own_ne hoc ho (by decide) with h1 | h1
    · rw [h1] at e; cases e
    · exact h1 (e.trans rfl)
  have hKg : ¬ K g := hK1 g rfl
  have hl : (swp xs i j).length = xs.length := length_swp _ _ _
  refine ⟨(((h.kept.setCell hKg _).setCell hKg _).setCell hKg _).setCell hKg _, h.klt, h.na, some ⟨g, 0, none⟩, c', A2, c2, ?_, ?_, ?_, ?_, hK2⟩
  · show Blk _ a TW #[.slice _ (swp xs i j).length c', _]
    rw [hl]
    exact (((hb.far (p := ⟨g, _, none⟩) hag _).far (p := ⟨g, _, none⟩) hag _).far (p := ⟨g, _, none⟩) hag _).far (p := ⟨g, _, none⟩) hag _
  · show World.ownsRow _ 0 TI 2 (.slice _ (swp xs i j).length c') (swp xs i j).length (ics (swp xs i j))
    rw [hl]
    exact own_swap2 ho hi hj
  · exact own_setCell_other (own_setCell_other (own_setCell_other (own_setCell_other hoc (p := ⟨g, _, none⟩) hcg _) (p := ⟨g, _, none⟩) hcg _) (p := ⟨g, _, none⟩) hcg _) (p := ⟨g, _, none⟩) hcg _
  · show ∀ g', (Value.slice _ (swp xs i j).length c').ownBlock = some g' → ¬ K g'
    exact fun g' hg' => hK1 g' hg'

/-- Behind the store of the calls' header the items' header is as it was. -/
theorem other_cell {w : World} {a : Nat} {u v : Value} (h : w.cell? ⟨a, 0, none⟩ = some v) : (w.setCell ⟨a, 1, none⟩ u).cell? ⟨a, 0, none⟩ = some v := by
  rw [← h]
  simp [go_sem]
set_option maxHeartbeats 1600000 in
theorem watched_Less (K : Nat → Prop) (w0 : World) (a : Nat) (xs : List (Int × Int)) (cs : List Cal) (i j : Nat) (w : World) (h : WAt K w0 a (xs, cs) w) (hi : i < xs.length) (hj : j < xs.length) (hn : xs.length < 4611686018427387904) (hc : (cs.length + 1) * 32 ≤ 140737488355328) :
    Calls Try.prog 57 #[.pointer (some ⟨a, 0, none⟩), .int .i64 i, .int .i64 j] w fun e w' => e = .returned (.bool (klt xs[i] xs[j])) ∧ WAt K w0 a (xs, cs ++ [⟨1, xs.length, i, j⟩]) w' := by
  obtain ⟨i0, hi0, hz0, hz1, hz2⟩ := info_parts info_call
  obtain ⟨A, c, A2, c2, hb, ho, hoc, hK1, hK2⟩ := h.hdr
  obtain ⟨g, cap, hv, _, hlg⟩ := ho.form (by show 0 < xs.length; omega)
  obtain ⟨rfl, rfl⟩ : A = some ⟨g, 0, none⟩ ∧ c = cap := by simpa using hv
  clear hv
  have e0 : w.cell? ⟨a, 0, none⟩ = some (.slice (some ⟨g, 0, none⟩) xs.length c) := hb.cell 0
  have e1 : w.cell? ⟨a, 1, none⟩ = some (.slice A2 cs.length c2) := hb.cell 1
  have f1 : w.frozen? ⟨a, 1, none⟩ = false := hb.frozen 1
  have ha : a < w.heap.size := hb.lt
  have HH := Lib.hid h
  have HB := Lib.hid hb
  have HO := Lib.hid ho
  have HOC := Lib.hid hoc
  have HK1 := Lib.hid hK1
  have HK2 := Lib.hid hK2
  clear h hb ho hoc hK1 hK2
  go_enter Try.func57, Try.ntmps57
  go_wp2_with fail
  go_region_law ((
    (refine step_append_row _ rfl (.tmp 11) (.tmp 20) 24 rfl 0 TC i0 _ 4 32 Try.underlying24 hi0 hz0 hz1 hz2 rfl (by decide) (.slice A2 cs.length c2) cs.length (ccs cs) rfl ?_ (w.heap.size + 1) (some ⟨w.heap.size, 0, none⟩) 1 1 (ccs [⟨1, xs.length, i, j⟩]) rfl ?_ (four_cells _) ?_ ?_ ?_ ?_)
    · exact (HOC.out.alloc _).drew
    · exact (sees_new rfl).drew
    · unfold maxLen; omega
    · omega
    · exact Nat.zero_le _
    intro A' c' w1 hown hg hat
    have hb1 : Blk w1 a TW #[.slice (some ⟨g, 0, none⟩) xs.length c, .slice A2 cs.length c2] := (HB.out.alloc _).drew.grown hg (fun e => own_blk_ne HOC.out HB.out (by decide) e.symm)
    have g0 : w1.cell? ⟨a, 0, none⟩ = some (.slice (some ⟨g, 0, none⟩) xs.length c) := hb1.cell 0
    have g1 : w1.cell? ⟨a, 1, none⟩ = some (.slice A2 cs.length c2) := hb1.cell 1
    have k1 : w1.frozen? ⟨a, 1, none⟩ = false := hb1.frozen 1
    have l1 : a < w1.heap.size := hb1.lt
    have hwc := wat_called (q := ⟨1, xs.length, i, j⟩) HH.out HB.out HO.out HOC.out HK1.out HK2.out hown hg hat
    have HW := Lib.hid hwc.1
    have HOW := Lib.hid hwc.2
    clear hb1 hown hg hat hwc))
  all_goals go_wp2_with fail
  all_goals
    (with_reducible refine (items_Less g xs.length c i j _ xs[i].1 xs[j].1 hi hj (by omega) ?_ ?_).mono ?_)
    · rw [HOW.out.cellAt _ (by omega)]; exact ics_key _ _ hi
    · rw [HOW.out.cellAt _ (by omega)]; exact ics_key _ _ hj
    rintro e w2 ⟨rfl, q, rfl⟩
    go_wp2
    go_ret
    exact ⟨rfl, HW.out.drewN q⟩

set_option maxHeartbeats 1600000 in
theorem watched_Swap (K : Nat → Prop) (w0 : World) (a : Nat) (xs : List (Int × Int)) (cs : List Cal) (i j : Nat) (w : World) (h : WAt K w0 a (xs, cs) w) (hi : i < xs.length) (hj : j < xs.length) (hn : xs.length < 4611686018427387904) (hc : (cs.length + 1) * 32 ≤ 140737488355328) :
    Calls Try.prog 60 #[.pointer (some ⟨a, 0, none⟩), .int .i64 i, .int .i64 j] w fun e w' => e = .returned (.tuple #[]) ∧ WAt K w0 a (swp xs i j, cs ++ [⟨2, xs.length, i, j⟩]) w' := by
  obtain ⟨i0, hi0, hz0, hz1, hz2⟩ := info_parts info_call
  obtain ⟨A, c, A2, c2, hb, ho, hoc, hK1, hK2⟩ := h.hdr
  obtain ⟨g, cap, hv, _, hlg⟩ := ho.form (by show 0 < xs.length; omega)
  obtain ⟨rfl, rfl⟩ : A = some ⟨g, 0, none⟩ ∧ c = cap := by simpa using hv
  clear hv
  have e0 : w.cell? ⟨a, 0, none⟩ = some (.slice (some ⟨g, 0, none⟩) xs.length c) := hb.cell 0
  have e1 : w.cell? ⟨a, 1, none⟩ = some (.slice A2 cs.length c2) := hb.cell 1
  have f1 : w.frozen? ⟨a, 1, none⟩ = false := hb.frozen 1
  have ha : a < w.heap.size := hb.lt
  have HH := Lib.hid h
  have HB := Lib.hid hb
  have HO := Lib.hid ho
  have HOC := Lib.hid hoc
  have HK1 := Lib.hid hK1
  have HK2 := Lib.hid hK2
  clear h hb ho hoc hK1 hK2
  go_enter Try.func60, Try.ntmps60
  go_wp2_with fail
  go_region_law ((
    (refine step_append_row _ rfl (.tmp 10) (.tmp 19) 24 rfl 0 TC i0 _ 4 32 Try.underlying24 hi0 hz0 hz1 hz2 rfl (by decide) (.slice A2 cs.length c2) cs.length (ccs cs) rfl ?_ (w.heap.size + 1) (some ⟨w.heap.size, 0, none⟩) 1 1 (ccs [⟨2, xs.length, i, j⟩]) rfl ?_ (four_cells _) ?_ ?_ ?_ ?_)
    · exact (HOC.out.alloc _).drew
    · exact (sees_new rfl).drew
    · unfold maxLen; omega
    · omega
    · exact Nat.zero_le _
    intro A' c' w1 hown hg hat
    have hb1 : Blk w1 a TW #[.slice (some ⟨g, 0, none⟩) xs.length c, .slice A2 cs.length c2] := (HB.out.alloc _).drew.grown hg (fun e => own_blk_ne HOC.out HB.out (by decide) e.symm)
    have g0 : w1.cell? ⟨a, 0, none⟩ = some (.slice (some ⟨g, 0, none⟩) xs.length c) := hb1.cell 0
    have g1 : w1.cell? ⟨a, 1, none⟩ = some (.slice A2 cs.length c2) := hb1.cell 1
    have k1 : w1.frozen? ⟨a, 1, none⟩ = false := hb1.frozen 1
    have l1 : a < w1.heap.size := hb1.lt
    have hwc := wat_called (q := ⟨2, xs.length, i, j⟩) HH.out HB.out HO.out HOC.out HK1.out HK2.out hown hg hat
    have HW := Lib.hid hwc.1
    have HOW := Lib.hid hwc.2
    have HC0 := Lib.hid (other_cell (u := .slice A' (cs.length + 1) c') g0)
    clear hb1 hown hg hat hwc))
  all_goals go_wp2_with fail
  all_goals
    (with_reducible refine (items_Swap g xs.length c i j _ xs[i].1 xs[i].2 xs[j].1 xs[j].2 hi hj (by omega) ?_ ?_ ?_ ?_ ?_).mono ?_)
    · rw [HOW.out.cellAt _ (by omega)]; exact ics_key _ _ hi
    · rw [HOW.out.cellAt _ (by omega)]; exact ics_key _ _ hj
    · rw [HOW.out.cellAt _ (by omega)]; exact ics_tag _ _ hi
    · rw [HOW.out.cellAt _ (by omega)]; exact ics_tag _ _ hj
    · exact fun o => HOW.out.frozenAt o
    rintro e w2 ⟨rfl, q, rfl⟩
    have HW2 := Lib.hid (wat_swapped HW.out HOW.out HC0.out hi hj)
    go_wp2
    go_end0
    exact ⟨rfl, HW2.out.drewN q⟩
end Go.Proofs.Ytpglibneflefgaa
