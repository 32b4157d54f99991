/- Plain laws about the keys of items. -/
import Derived.Test.YtgijkfkfifjokaaAscItems
import Derived.Test.YtgijkfkfifjokaaSorted
namespace Go.Proofs.Ytgijkfkfifjokaa
set_option linter.unusedVariables false

theorem keys_le {l : List (Int × Int)} (h : l.Pairwise fun a b => klt b a = false) : (l.map (·.1)).Pairwise (· ≤ ·) := by
  rw [List.pairwise_map]
  exact h.imp fun h => by simp [klt] at h; omega
theorem keysUp_pairwise : ∀ {l : List (Int × Int)}, KeysUp l → l.Pairwise fun a b => a.1 ≤ b.1
  | [], _ => List.Pairwise.nil
  | [x], _ => List.pairwise_singleton _ _
  | x :: y :: r, h => by
    have h2 : KeysUp (y :: r) := fun j hj h1 => by
      have := h (j + 1) (by simpa using hj) (by omega)
      obtain ⟨i, rfl⟩ : ∃ i, j = i + 1 := ⟨j - 1, by omega⟩
      simpa using this
    have hp := keysUp_pairwise h2
    have hxy : x.1 ≤ y.1 := h 1 (by simp) (by omega)
    refine List.pairwise_cons.2 ⟨fun z hz => ?_, hp⟩
    rcases List.mem_cons.1 hz with rfl | hz
    · exact hxy
    · exact Int.le_trans hxy ((List.pairwise_cons.1 hp).1 z hz)
theorem keysUp_heap {l : List (Int × Int)} (h : KeysUp l) : HeapOrd l := fun j hj h1 =>
  List.pairwise_iff_getElem.1 (keysUp_pairwise h) ((j - 1) / 2) j (by omega) hj (by omega)
theorem pops_keys {l : List (Int × Int)} (h : KeysUp l) : (popsF klt (0, 0) l.length l).map (·.1) = l.map (·.1) := by
  refine sorted_eq ((popsF_perm klt (0, 0) _ l rfl).map _) (keys_le ?_) ?_
  · exact popsF_sorted (0, 0) (klt_weak fun _ => True) _ l rfl (fun _ _ => trivial) ((heapOrd_iff l).1 (keysUp_heap h))
  · rw [List.pairwise_map]; exact keysUp_pairwise h
theorem sort_up (l : List (Int × Int)) : upB (sortF klt (0, 0) l) = true := up_of_pairwise (sortF_sorted (0, 0) (klt_weak fun _ => True) l fun _ _ => trivial)
theorem sort_keys (l : List (Int × Int)) : (sortF klt (0, 0) l).map (·.1) = sortF ilt 0 (l.map (·.1)) :=
  sorted_eq (((sortF_perm (0, 0) klt l).map _).trans (sortF_perm 0 ilt _).symm) (keys_le (sortF_sorted (0, 0) (klt_weak fun _ => True) l fun _ _ => trivial)) (sortI_le _)
end Go.Proofs.Ytgijkfkfifjokaa
