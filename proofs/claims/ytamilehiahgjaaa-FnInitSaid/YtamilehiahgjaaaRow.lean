/- A heap in memory: a block whose first cell is the header of a row of the call's own. And the plain machine of a list. -/
import Derived.Test.YtamilehiahgjaaaWords
import Derived.Test.YtamilehiahgjaaaMach
namespace Go.Proofs.Ytamilehiahgjaaa
open Go.RowKit

/-- In world w, which has grown out of w0, block a (not in w0) holds the header of a slice, which owns the elements xs; behind the header the block holds ex. -/
structure HeapAt {α : Type} (TH E : TypeId) (sz : Nat) (fl : List α → List Value) (ex : List Value) (w0 : World) (a : Nat) (xs : List α) (w : World) : Prop where
  below : Below w0.heap.size w0 w
  ba : w0.heap.size ≤ a
  hdr : ∃ A c, Blk w a TH (.slice A xs.length c :: ex).toArray ∧ w.ownsRow w0.heap.size E sz (.slice A xs.length c) xs.length (fl xs)

section
variable {α : Type} {TH E : TypeId} {sz : Nat} {fl : List α → List Value} {ex : List Value} {w0 : World} {a : Nat} {xs : List α} {w : World}
theorem HeapAt.drewN (h : HeapAt TH E sz fl ex w0 a xs w) (n : Nat) : HeapAt TH E sz fl ex w0 a xs (w.drewN n) :=
  ⟨below_drewN h.below n, h.ba, h.hdr⟩
theorem HeapAt.alloc (h : HeapAt TH E sz fl ex w0 a xs w) (o : Obj) : HeapAt TH E sz fl ex w0 a xs (w.alloc o) := by
  obtain ⟨h1, h2, A, c, h3, h4⟩ := h
  exact ⟨h1.alloc h1.size o, h2, A, c, h3.alloc o, h4.alloc o⟩
theorem HeapAt.below' {w' : World} (h : HeapAt TH E sz fl ex w0 a xs w) (hb : Below w.heap.size w w') : HeapAt TH E sz fl ex w0 a xs w' := by
  obtain ⟨h1, h2, A, c, h3, h4⟩ := h
  exact ⟨h1.trans (hb.mono h1.size), h2, A, c, h3.below hb h3.lt, own_below h4 hb (own_lt h4)⟩
theorem HeapAt.le (h : HeapAt TH E sz fl ex w0 a xs w) : xs.length ≤ maxLen := by
  obtain ⟨_, _, A, c, _, h4⟩ := h
  rcases h4.2 with ⟨_, h0⟩ | ⟨g, cap, cur, _, _, _, h5, h6, _⟩
  · rw [h0]; exact Nat.zero_le _
  · omega
end

/-! The plain machine of a list -/
def swp {α : Type} (l : List α) (i j : Nat) : List α :=
  match l[i]?, l[j]? with
  | some x, some y => (l.set i y).set j x
  | _, _ => l
theorem swp_eq {α : Type} {l : List α} {i j : Nat} (hi : i < l.length) (hj : j < l.length) : swp l i j = (l.set i l[j]).set j l[i] := by
  simp [swp, hi, hj]
@[simp] theorem length_swp {α : Type} (l : List α) (i j : Nat) : (swp l i j).length = l.length := by
  unfold swp; split <;> simp
def listM {α : Type} (lt : α → α → Bool) : HM (List α) where
  len := List.length
  less s i j := match s[i]?, s[j]? with
    | some x, some y => lt x y
    | _, _ => false
  asked s _ _ := s
  swap := swp
  cost _ := 0
theorem listM_fair {α : Type} (lt : α → α → Bool) : (listM lt).Fair := ⟨fun _ _ _ => rfl, fun _ _ _ => length_swp _ _ _, fun _ _ _ => Nat.zero_le _, fun _ _ _ => Nat.zero_le _⟩
theorem listM_less {α : Type} (lt : α → α → Bool) {s : List α} {i j : Nat} (hi : i < s.length) (hj : j < s.length) : (listM lt).less s i j = lt s[i] s[j] := by
  simp [listM, hi, hj]

/-! Two cells an element: items -/
def ics : List (Int × Int) → List Value
  | [] => []
  | x :: r => .int .i64 x.1 :: .int .i64 x.2 :: ics r
@[simp] theorem ics_length : ∀ l : List (Int × Int), (ics l).length = l.length * 2
  | [] => rfl
  | _ :: r => by simp [ics, ics_length r, Nat.add_mul]
theorem ics_append : ∀ l m : List (Int × Int), ics (l ++ m) = ics l ++ ics m
  | [], _ => rfl
  | _ :: r, m => by simp [ics, ics_append r m]
theorem ics_key : ∀ (l : List (Int × Int)) (i : Nat) (h : i < l.length), (ics l)[i * 2]? = some (.int .i64 l[i].1)
  | _ :: _, 0, _ => rfl
  | _ :: r, i + 1, h => by rw [Nat.add_mul]; exact ics_key r i (by simpa using h)
theorem ics_tag : ∀ (l : List (Int × Int)) (i : Nat) (h : i < l.length), (ics l)[i * 2 + 1]? = some (.int .i64 l[i].2)
  | _ :: _, 0, _ => rfl
  | _ :: r, i + 1, h => by rw [Nat.add_mul]; exact ics_tag r i (by simpa using h)
theorem ics_set : ∀ (l : List (Int × Int)) (i : Nat) (x : Int × Int), ((ics l).set (i * 2) (.int .i64 x.1)).set (i * 2 + 1) (.int .i64 x.2) = ics (l.set i x)
  | [], _, _ => rfl
  | _ :: _, 0, _ => rfl
  | y :: r, i + 1, x => by
    rw [Nat.add_mul, Nat.one_mul]
    simp only [ics, List.set_cons_succ]
    rw [ics_set r i x]
theorem ics_cells : ∀ (l : List (Int × Int)), ∀ u ∈ ics l, u.oneCell' = true
  | [], _, h => by simp [ics] at h
  | x :: r, u, h => by
    simp only [ics, List.mem_cons] at h
    rcases h with rfl | rfl | h
    · rfl
    · rfl
    · exact ics_cells r u h
theorem ics_take : ∀ (l : List (Int × Int)) (n : Nat), ics (l.take n) = (ics l).take (n * 2)
  | [], n => by simp [ics]
  | _ :: _, 0 => by simp [ics]
  | x :: r, n + 1 => by
    rw [Nat.add_mul, Nat.one_mul]
    simp only [List.take_succ_cons, ics, ics_take r n]

section
variable {w : World} {base : Nat} {e : TypeId} {g n cap : Nat} {l : List (Int × Int)}
theorem own_swap2 (h : w.ownsRow base e 2 (.slice (some ⟨g, 0, none⟩) n cap) n (ics l)) {i j : Nat} (hi : i < l.length) (hj : j < l.length) :
    ((((w.setCell ⟨g, i * 2, none⟩ (.int .i64 l[j].1)).setCell ⟨g, i * 2 + 1, none⟩ (.int .i64 l[j].2)).setCell ⟨g, j * 2, none⟩ (.int .i64 l[i].1)).setCell ⟨g, j * 2 + 1, none⟩ (.int .i64 l[i].2)).ownsRow
      base e 2 (.slice (some ⟨g, 0, none⟩) n cap) n (ics (swp l i j)) := by
  have h4 := ((((h.stored (i * 2) (.int .i64 l[j].1)).1.stored (i * 2 + 1) (.int .i64 l[j].2)).1.stored (j * 2) (.int .i64 l[i].1)).1.stored (j * 2 + 1) (.int .i64 l[i].2)).1
  rw [ics_set, ics_set, ← swp_eq hi hj] at h4
  exact h4
/-- A shorter slice over the same row. -/
theorem own_shrink {size : Nat} {cs : List Value} (h : w.ownsRow base e size (.slice (some ⟨g, 0, none⟩) (n + 1) cap) (n + 1) cs) :
    w.ownsRow base e size (.slice (some ⟨g, 0, none⟩) n cap) n (cs.take (n * size)) := by
  obtain ⟨h1, h2⟩ := h
  rcases h2 with ⟨h', _⟩ | ⟨g', cap', cur, h', hb, hg, hnc, hcm, hcs, htake⟩
  · simp at h'
  · simp only [Value.slice.injEq, Option.some.injEq, Addr.mk.injEq, and_true, true_and] at h'
    obtain ⟨rfl, rfl⟩ := h'
    refine ⟨?_, .inr ⟨g, cap, cur, rfl, hb, hg, by omega, hcm, hcs, ?_⟩⟩
    · rw [List.length_take, h1, Nat.add_mul]; omega
    · rw [← htake, List.take_take, Nat.min_eq_left (Nat.mul_le_mul_right _ (Nat.le_succ n))]
theorem own_cap {size : Nat} {cs : List Value} {A : Option Addr} (h : w.ownsRow base e size (.slice A n cap) n cs) : n ≤ cap := by
  rcases h.2 with ⟨h', _⟩ | ⟨g', cap', cur, h', hb, hg, hnc, hcm, hcs, htake⟩
  · simp only [Value.slice.injEq] at h'
    omega
  · simp only [Value.slice.injEq] at h'
    omega
end

/-! One cell an element -/
theorem one_swap {α : Type} {f : α → Value} {w : World} {base : Nat} {e : TypeId} {g n cap : Nat} {l : List α} (h : w.ownsRow base e 1 (.slice (some ⟨g, 0, none⟩) n cap) n (l.map f)) {i j : Nat} (hi : i < l.length) (hj : j < l.length) :
    ((w.setCell ⟨g, i, none⟩ (f l[j])).setCell ⟨g, j, none⟩ (f l[i])).ownsRow base e 1 (.slice (some ⟨g, 0, none⟩) n cap) n ((swp l i j).map f) := by
  have h2 := ((h.stored i (f l[j])).1.stored j (f l[i])).1
  rw [← List.map_set, ← List.map_set, ← swp_eq hi hj] at h2
  exact h2
end Go.Proofs.Ytamilehiahgjaaa
