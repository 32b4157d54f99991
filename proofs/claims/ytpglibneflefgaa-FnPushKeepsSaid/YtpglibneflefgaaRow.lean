/- A heap in memory: a block whose first cell is the header of a row of the call's own. And the plain machine of a list. -/
import Derived.Test.YtpglibneflefgaaWords
import Derived.Test.YtpglibneflefgaaMach
namespace Go.Proofs.Ytpglibneflefgaa
set_option linter.unusedVariables false
open Go.RowKit

/-- From w to w' the blocks of which K holds have not turned; the streams are as they were; no block has gone. -/
structure Kept (K : Nat → Prop) (w w' : World) : Prop where
  os : w'.os = w.os
  tape : w'.tape = w.tape
  output : w'.output = w.output
  size : w.heap.size ≤ w'.heap.size
  block : ∀ k, K k → w'.heap[k]? = w.heap[k]?
section
variable {K : Nat → Prop} {w w1 w2 : World}
theorem Kept.refl (K : Nat → Prop) (w : World) : Kept K w w := ⟨rfl, rfl, rfl, Nat.le_refl _, fun _ _ => rfl⟩
theorem Kept.trans (h : Kept K w w1) (k : Kept K w1 w2) : Kept K w w2 :=
  ⟨k.os.trans h.os, k.tape.trans h.tape, k.output.trans h.output, Nat.le_trans h.size k.size, fun i hi => (k.block i hi).trans (h.block i hi)⟩
theorem Kept.mono {K' : Nat → Prop} (h : Kept K w w1) (hK : ∀ k, K' k → K k) : Kept K' w w1 := ⟨h.os, h.tape, h.output, h.size, fun k hk => h.block k (hK k hk)⟩
theorem Kept.drew (h : Kept K w w1) : Kept K w w1.drew := ⟨h.os, h.tape, h.output, h.size, h.block⟩
theorem Kept.drewN (h : Kept K w w1) (n : Nat) : Kept K w (w1.drewN n) := ⟨h.os, h.tape, h.output, h.size, h.block⟩
theorem Kept.alloc (h : Kept K w w1) (hK : ∀ k, K k → k < w.heap.size) (o : Obj) : Kept K w (w1.alloc o) :=
  h.trans ⟨rfl, rfl, rfl, by simp, fun k hk => Below.heap_alloc _ _ _ (Nat.lt_of_lt_of_le (hK k hk) h.size)⟩
theorem Kept.setCell (h : Kept K w w1) {p : Addr} (hp : ¬ K p.block) (u : Value) : Kept K w (w1.setCell p u) :=
  h.trans ⟨rfl, rfl, rfl, by simp [World.setCell], fun k hk => Below.heap_setCell _ _ _ _ (fun e => hp (e ▸ hk))⟩
theorem Kept.grown {row : Option Nat} (h : Kept K w w1) (hg : w1.grownBy w2 row) (hK : ∀ k, K k → k < w.heap.size) (hr : ∀ k, row = some k → ¬ K k) : Kept K w w2 :=
  h.trans ⟨hg.os, hg.tape, hg.output, hg.size, fun k hk => hg.block k (Nat.lt_of_lt_of_le (hK k hk) h.size) (fun e => hr k e.symm hk)⟩
theorem Kept.of_below {B : Nat} (h : Below B w w1) (hK : ∀ k, K k → k < B) : Kept K w w1 := ⟨h.os, h.tape, h.output, h.size, fun k hk => h.block k (hK k hk)⟩
theorem Kept.below {B : Nat} (h : Kept K w w1) (hK : ∀ k, k < B → K k) : Below B w w1 := ⟨h.os, h.tape, h.output, h.size, fun k hk => h.block k (hK k hk)⟩
end

theorem own_kept {K : Nat → Prop} {w w' : World} {base : Nat} {e : TypeId} {size : Nat} {v : Value} {n : Nat} {xs : List Value} (h : w.ownsRow base e size v n xs) (hb : Kept K w w') (hK : ∀ k, v.ownBlock = some k → K k) : w'.ownsRow base e size v n xs := by
  refine ⟨h.1, ?_⟩
  rcases h.2 with hn | ⟨g, cap, cur, rfl, hbg, hgg, rest⟩
  · exact .inl hn
  · refine .inr ⟨g, cap, cur, rfl, hbg, ?_, rest⟩
    rw [hb.block g (hK g rfl)]
    exact hgg

/-- In world w, in which the blocks of K are as they were in w0, block a (not in K) holds the header of a slice, which owns the elements xs, in a block that is not in K; behind the header the block holds ex. -/
structure HeapAt {α : Type} (TH E : TypeId) (sz : Nat) (fl : List α → List Value) (ex : List Value) (K : Nat → Prop) (w0 : World) (a : Nat) (xs : List α) (w : World) : Prop where
  kept : Kept K w0 w
  klt : ∀ k, K k → k < w0.heap.size
  na : ¬ K a
  hdr : ∃ A c, Blk w a TH (.slice A xs.length c :: ex).toArray ∧ w.ownsRow 0 E sz (.slice A xs.length c) xs.length (fl xs) ∧ ∀ g, (Value.slice A xs.length c).ownBlock = some g → ¬ K g

section
variable {α : Type} {TH E : TypeId} {sz : Nat} {fl : List α → List Value} {ex : List Value} {K : Nat → Prop} {w0 : World} {a : Nat} {xs : List α} {w : World}
theorem HeapAt.drewN (h : HeapAt TH E sz fl ex K w0 a xs w) (n : Nat) : HeapAt TH E sz fl ex K w0 a xs (w.drewN n) :=
  ⟨h.kept.drewN n, h.klt, h.na, h.hdr⟩
theorem HeapAt.alloc (h : HeapAt TH E sz fl ex K w0 a xs w) (o : Obj) : HeapAt TH E sz fl ex K w0 a xs (w.alloc o) := by
  obtain ⟨h1, h2, h3, A, c, h4, h5, h6⟩ := h
  exact ⟨h1.alloc h2 o, h2, h3, A, c, h4.alloc o, h5.alloc o, h6⟩
theorem HeapAt.lt (h : HeapAt TH E sz fl ex K w0 a xs w) : a < w.heap.size := by
  obtain ⟨A, c, h4, _⟩ := h.hdr
  exact h4.lt
/-- A heap that has just been laid: its header in a new block. -/
theorem heapAt_new {w1 : World} {A : Option Addr} {c : Nat} {l : List α} {B : Nat} {ex : List Value} (ho : w1.ownsRow B E sz (.slice A l.length c) l.length (fl l)) (hb : Below B w w1) (hB : B ≤ w.heap.size) :
    HeapAt TH E sz fl ex (· < B) w w1.heap.size l (w1.alloc (.cells (.slice A l.length c :: ex).toArray TH)) :=
  ⟨(Kept.of_below hb fun _ h => h).alloc (fun k hk => by omega) _, fun k hk => by omega, by have := hb.size; omega, A, c, Blk.new _ _ _, own_base (ho.alloc _) (Nat.zero_le _), fun g hg => by have := (ho.lt g hg).1; omega⟩
/-- The same heap, seen from another world and another set of kept blocks. -/
theorem HeapAt.rebase (h : HeapAt TH E sz fl ex K w0 a xs w) {w1 : World} {K' : Nat → Prop} {row : Option Nat} (hg : w.grownBy w1 row) (hrow : ∀ k, row = some k → K k) (hK : ∀ k, K' k → k < w1.heap.size ∧ (K k ∨ w.heap.size ≤ k)) :
    HeapAt TH E sz fl ex K' w1 a xs w1 := by
  obtain ⟨h1, h2, h3, A, c, h4, h5, h6⟩ := h
  refine ⟨Kept.refl _ _, fun k hk => (hK k hk).1, fun hk => ?_, A, c, h4.grown hg (fun e => h3 (hrow a e.symm)), h5.kept hg ?_, fun g hgg hk => ?_⟩
  · rcases (hK a hk).2 with h | h
    · exact h3 h
    · have := h4.lt; omega
  · by_cases e : (Value.slice A xs.length c).ownBlock = none
    · exact Or.inl e
    · refine Or.inr fun e2 => ?_
      obtain ⟨g, hg'⟩ := Option.ne_none_iff_exists'.1 e
      exact h6 g hg' (hrow g (e2 ▸ hg'))
  · rcases (hK g hk).2 with h | h
    · exact h6 g hgg h
    · have := own_lt h5 g hgg; omega
end

/-- The heap and a row of the call's own beside it: behind an append onto that row. -/
theorem heap_beside {α : Type} {TH E : TypeId} {sz : Nat} {fl : List α → List Value} {ex : List Value} {B a : Nat} {xs : List α} {w w1 w2 w3 : World} {v v' : Value}
    (h : HeapAt TH E sz fl ex (fun b => b < B ∨ v.ownBlock = some b) w a xs w1) (hg : w1.grownBy w2 none) (hg2 : w2.grownBy w3 v.ownBlock)
    (hat : v'.ownBlock = v.ownBlock ∨ v'.ownBlock = some w2.heap.size) (hlt : ∀ k, v'.ownBlock = some k → k < w3.heap.size) (hB : B ≤ w3.heap.size) :
    HeapAt TH E sz fl ex (fun b => b < B ∨ v'.ownBlock = some b) w3 a xs w3 := by
  have h2 : HeapAt TH E sz fl ex (fun b => b < B ∨ v.ownBlock = some b) w2 a xs w2 :=
    h.rebase hg (fun k hk => by cases hk) (fun k hk => ⟨Nat.lt_of_lt_of_le (Nat.lt_of_lt_of_le (h.klt k hk) h.kept.size) hg.size, .inl hk⟩)
  refine h2.rebase hg2 (fun k hk => .inr hk) fun k hk => ?_
  rcases hk with hk | hk
  · exact ⟨by omega, .inl (.inl hk)⟩
  · refine ⟨hlt k hk, ?_⟩
    rcases hat with e | e
    · exact .inl (.inr (e ▸ hk))
    · rw [e] at hk; injection hk with hk; exact .inr (by omega)

/-- At the start: nothing beside it yet. -/
theorem heap_start_beside {α : Type} {TH E : TypeId} {sz : Nat} {fl : List α → List Value} {ex : List Value} {B a : Nat} {xs : List α} {w w1 : World}
    (h : HeapAt TH E sz fl ex (· < B) w a xs w1) (hB : B ≤ w1.heap.size) : HeapAt TH E sz fl ex (fun b => b < B ∨ (Value.slice none 0 0).ownBlock = some b) w1 a xs w1 := by
  refine h.rebase (World.grownBy.refl _ none) (fun k hk => by cases hk) (fun k hk => ?_)
  rcases hk with hk | hk
  · exact ⟨by omega, .inl hk⟩
  · simp [Value.ownBlock] at hk

/-! The plain machine of a list -/
def swp {α : Type} (l : List α) (i j : Nat) : List α :=
  match l[i]?, l[j]? with
  | some x, some y => (l.set i y).set j x
  | _, _ => l
theorem swp_eq {α : Type} {l : List α} {i j : Nat} (hi : i < l.length) (hj : j < l.length) : swp l i j = (l.set i l[j]).set j l[i] := by
  simp [swp, hi, hj]
@[simp] theorem length_swp {α : Type} (l : List α) (i j : Nat) : (swp l i j).length = l.length := by
  unfold swp; split <;> simp
def listM {α : Type} (lt : α → α → Bool) : HM (List α) where
  len := List.length
  less s i j := match s[i]?, s[j]? with
    | some x, some y => lt x y
    | _, _ => false
  asked s _ _ := s
  swap := swp
  cost _ := 0
theorem listM_fair {α : Type} (lt : α → α → Bool) : (listM lt).Fair := ⟨fun _ _ _ => rfl, fun _ _ _ => length_swp _ _ _, fun _ _ _ => Nat.zero_le _, fun _ _ _ => Nat.zero_le _⟩
theorem listM_less {α : Type} (lt : α → α → Bool) {s : List α} {i j : Nat} (hi : i < s.length) (hj : j < s.length) : (listM lt).less s i j = lt s[i] s[j] := by
  simp [listM, hi, hj]

/-! Two cells an element: items -/
def ics : List (Int × Int) → List Value
  | [] => []
  | x :: r => .int .i64 x.1 :: .int .i64 x.2 :: ics r
@[simp] theorem ics_length : ∀ l : List (Int × Int), (ics l).length = l.length * 2
  | [] => rfl
  | _ :: r => by simp [ics, ics_length r, Nat.add_mul]
theorem ics_append : ∀ l m : List (Int × Int), ics (l ++ m) = ics l ++ ics m
  | [], _ => rfl
  | _ :: r, m => by simp [ics, ics_append r m]
theorem ics_key : ∀ (l : List (Int × Int)) (i : Nat) (h : i < l.length), (ics l)[i * 2]? = some (.int .i64 l[i].1)
  | _ :: _, 0, _ => rfl
  | _ :: r, i + 1, h => by rw [Nat.add_mul]; exact ics_key r i (by simpa using h)
theorem ics_tag : ∀ (l : List (Int × Int)) (i : Nat) (h : i < l.length), (ics l)[i * 2 + 1]? = some (.int .i64 l[i].2)
  | _ :: _, 0, _ => rfl
  | _ :: r, i + 1, h => by rw [Nat.add_mul]; exact ics_tag r i (by simpa using h)
theorem ics_set : ∀ (l : List (Int × Int)) (i : Nat) (x : Int × Int), ((ics l).set (i * 2) (.int .i64 x.1)).set (i * 2 + 1) (.int .i64 x.2) = ics (l.set i x)
  | [], _, _ => rfl
  | _ :: _, 0, _ => rfl
  | y :: r, i + 1, x => by
    rw [Nat.add_mul, Nat.one_mul]
    simp only [ics, List.set_cons_succ]
    rw [ics_set r i x]
theorem ics_cells : ∀ (l : List (Int × Int)), ∀ u ∈ ics l, u.oneCell' = true
  | [], _, h => by simp [ics] at h
  | x :: r, u, h => by
    simp only [ics, List.mem_cons] at h
    rcases h with rfl | rfl | h
    · rfl
    · rfl
    · exact ics_cells r u h
theorem ics_take : ∀ (l : List (Int × Int)) (n : Nat), ics (l.take n) = (ics l).take (n * 2)
  | [], n => by simp [ics]
  | _ :: _, 0 => by simp [ics]
  | x :: r, n + 1 => by
    rw [Nat.add_mul, Nat.one_mul]
    simp only [List.take_succ_cons, ics, ics_take r n]

section
variable {w : World} {base : Nat} {e : TypeId} {g n cap : Nat} {l : List (Int × Int)}
theorem own_swap2 (h : w.ownsRow base e 2 (.slice (some ⟨g, 0, none⟩) n cap) n (ics l)) {i j : Nat} (hi : i < l.length) (hj : j < l.length) :
    ((((w.setCell ⟨g, i * 2, none⟩ (.int .i64 l[j].1)).setCell ⟨g, i * 2 + 1, none⟩ (.int .i64 l[j].2)).setCell ⟨g, j * 2, none⟩ (.int .i64 l[i].1)).setCell ⟨g, j * 2 + 1, none⟩ (.int .i64 l[i].2)).ownsRow
      base e 2 (.slice (some ⟨g, 0, none⟩) n cap) n (ics (swp l i j)) := by
  have h4 := ((((h.stored (i * 2) (.int .i64 l[j].1)).1.stored (i * 2 + 1) (.int .i64 l[j].2)).1.stored (j * 2) (.int .i64 l[i].1)).1.stored (j * 2 + 1) (.int .i64 l[i].2)).1
  rw [ics_set, ics_set, ← swp_eq hi hj] at h4
  exact h4
/-- A shorter slice over the same row. -/
theorem own_shrink {size : Nat} {cs : List Value} (h : w.ownsRow base e size (.slice (some ⟨g, 0, none⟩) (n + 1) cap) (n + 1) cs) :
    w.ownsRow base e size (.slice (some ⟨g, 0, none⟩) n cap) n (cs.take (n * size)) := by
  obtain ⟨h1, h2⟩ := h
  rcases h2 with ⟨h', _⟩ | ⟨g', cap', cur, h', hb, hg, hnc, hcm, hcs, htake⟩
  · simp at h'
  · simp only [Value.slice.injEq, Option.some.injEq, Addr.mk.injEq, and_true, true_and] at h'
    obtain ⟨rfl, rfl⟩ := h'
    refine ⟨?_, .inr ⟨g, cap, cur, rfl, hb, hg, by omega, hcm, hcs, ?_⟩⟩
    · rw [List.length_take, h1, Nat.add_mul]; omega
    · rw [← htake, List.take_take, Nat.min_eq_left (Nat.mul_le_mul_right _ (Nat.le_succ n))]
theorem own_cap {size : Nat} {cs : List Value} {A : Option Addr} (h : w.ownsRow base e size (.slice A n cap) n cs) : n ≤ cap := by
  rcases h.2 with ⟨h', _⟩ | ⟨g', cap', cur, h', hb, hg, hnc, hcm, hcs, htake⟩
  · simp only [Value.slice.injEq] at h'
    omega
  · simp only [Value.slice.injEq] at h'
    omega
end

/-! One cell an element -/
theorem one_swap {α : Type} {f : α → Value} {w : World} {base : Nat} {e : TypeId} {g n cap : Nat} {l : List α} (h : w.ownsRow base e 1 (.slice (some ⟨g, 0, none⟩) n cap) n (l.map f)) {i j : Nat} (hi : i < l.length) (hj : j < l.length) :
    ((w.setCell ⟨g, i, none⟩ (f l[j])).setCell ⟨g, j, none⟩ (f l[i])).ownsRow base e 1 (.slice (some ⟨g, 0, none⟩) n cap) n ((swp l i j).map f) := by
  have h2 := ((h.stored i (f l[j])).1.stored j (f l[i])).1
  rw [← List.map_set, ← List.map_set, ← swp_eq hi hj] at h2
  exact h2
end Go.Proofs.Ytpglibneflefgaa
