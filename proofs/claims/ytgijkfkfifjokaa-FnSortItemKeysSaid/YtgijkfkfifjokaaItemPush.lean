/- The heap of items: the methods Push and Pop; the functions HeapPush, HeapPop. -/
import Derived.Test.YtgijkfkfifjokaaItemFns
import Derived.Test.YtgijkfkfifjokaaPops
import Derived.Deep.RegionWith
namespace Go.Proofs.Ytgijkfkfifjokaa
set_option linter.unusedVariables false
open Go.RowKit



set_option maxHeartbeats 400000 in
theorem items_Pop_walk (a g n c : Nat) (w : World) (k t : Int) (hn : n < 4611686018427387904) (hnc : n + 1 ≤ c)
    (ha : a < w.heap.size) (hg : g < w.heap.size)
    (hh : w.cell? ⟨a, 0, none⟩ = some (.slice (some ⟨g, 0, none⟩) (n + 1) c)) (hf : w.frozen? ⟨a, 0, none⟩ = false)
    (ck : w.cell? ⟨g, n * 2, none⟩ = some (.int .i64 k)) (ct : w.cell? ⟨g, n * 2 + 1, none⟩ = some (.int .i64 t)) :
    Calls Try.prog 60 #[.pointer (some ⟨a, 0, none⟩)] w fun e w' => e = .returned (.iface 50 (.agg #[.int .i64 k, .int .i64 t])) ∧
      w' = (w.setCell ⟨a, 0, none⟩ (.slice (some ⟨g, 0, none⟩) n c)).alloc (.cells #[.int .i64 k, .int .i64 t] 50) := by
  go_enter Try.func60, Try.ntmps60
  go_wp2
  go_ret
  exact ⟨rfl, rfl⟩

theorem items_pop (K : Nat → Prop) (w0 : World) (a : Nat) (xs : List (Int × Int)) (n : Nat) (hx : xs.length = n + 1) (hn : n < 4611686018427387904) (w : World) (h : ItemsAt K w0 a xs w) :
    Meth Try.prog 53 (.pointer (some ⟨a, 0, none⟩)) "Pop" #[] w fun e w' => e = .returned (.iface 50 (.agg #[.int .i64 (at_ (0, 0) xs n).1, .int .i64 (at_ (0, 0) xs n).2])) ∧ ItemsAt K w0 a (xs.take n) w' := by
  obtain ⟨A, c, hb, ho, hK⟩ := h.hdr
  obtain ⟨g, cap, hv, _, hlt⟩ := ho.form (by omega)
  obtain ⟨rfl, rfl⟩ : A = some ⟨g, 0, none⟩ ∧ c = cap := by simpa using hv
  have hnl : n < xs.length := by omega
  rw [hx] at hb ho
  refine ⟨_, _, items_find_Pop _ w, fun _ _ => by kernel_rfl, ?_⟩
  refine (items_Pop_walk a g n c w (at_ (0, 0) xs n).1 (at_ (0, 0) xs n).2 hn (own_cap ho) hb.lt hlt (hb.cell 0) (hb.frozen 0) ?_ ?_).mono ?_
  · rw [ho.cellAt _ (by omega), at_get _ hnl]; exact ics_key _ _ hnl
  · rw [ho.cellAt _ (by omega), at_get _ hnl]; exact ics_tag _ _ hnl
  rintro e w' ⟨rfl, rfl⟩
  refine ⟨rfl, HeapAt.alloc ⟨h.kept.setCell h.na _, h.klt, h.na, some ⟨g, 0, none⟩, c, ?_, ?_, ?_⟩ _⟩
  · rw [show (xs.take n).length = n by rw [List.length_take]; omega]
    exact hb.set_ 0 _
  · rw [show (xs.take n).length = n by rw [List.length_take]; omega, ics_take]
    exact own_setCell_other (own_shrink ho) (own_blk_ne (own_shrink ho) hb (by decide)) _
  · intro g' hg'
    exact hK g' hg'

/-- heap.Pop over a heap of items. -/
theorem items_heapPop (K : Nat → Prop) (w0 : World) (a : Nat) (l : List (Int × Int)) (w : World) (h : ItemsAt K w0 a l w) (h0 : 0 < l.length) (hn : l.length < 4611686018427387904) :
    Calls Try.prog 31 #[.iface 53 (.pointer (some ⟨a, 0, none⟩))] w fun e w' => e = .returned (.iface 50 (.agg #[.int .i64 (popTop klt (0, 0) l).1, .int .i64 (popTop klt (0, 0) l).2])) ∧ ItemsAt K w0 a (popRest klt l) w' := by
  refine pop_any (items_impl K w0 a (3 * l.length) l.length hn) l w (l.length - 1) _ _ ⟨h, Nat.le_refl _⟩ (by show l.length = _; omega) (by omega) (by show 0 + _ + 1 ≤ _; omega) ?_
  rintro w1 ⟨h1, _⟩
  exact items_pop K w0 a _ (l.length - 1) (by show (popAll klt l).length = _; rw [popAll_length]; omega) (by omega) w1 h1



/-- A new slice of items and an item are handed back. -/
def NewItemsAnd (w : World) (l : List (Int × Int)) (x : Int × Int) (e : Ending) (w' : World) : Prop :=
  ∃ A c, e = .returned (.tuple #[.slice A l.length c, .agg #[.int .i64 x.1, .int .i64 x.2]]) ∧ w'.ownsRow w.heap.size 50 2 (.slice A l.length c) l.length (ics l) ∧ Below w.heap.size w w'

theorem newand_eq {P : Program} {f : FuncId} {args : Array Value} {w : World} {l : List (Int × Int)} {x x' : Int × Int} (h : Calls P f args w (NewItemsAnd w l x)) (e : x = x') : Calls P f args w (NewItemsAnd w l x') := e ▸ h


end Go.Proofs.Ytgijkfkfifjokaa
