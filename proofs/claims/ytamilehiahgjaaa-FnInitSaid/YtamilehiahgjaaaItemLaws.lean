/- Plain laws of the heap of items. -/
import Derived.Test.YtamilehiahgjaaaLawFns
import Derived.Test.YtamilehiahgjaaaPlain
namespace Go.Proofs.Ytamilehiahgjaaa

theorem klt_weak (S : Int × Int → Prop) : Weak klt S := ⟨fun a b _ _ h => by simp [klt] at h ⊢; omega, fun a b c _ _ _ h1 h2 => by simp [klt] at h1 h2 ⊢; omega⟩
theorem heapOrd_iff (l : List (Int × Int)) : HeapOrd l ↔ HP klt (0, 0) l.length 0 l := by
  constructor
  · intro h j h1 h2 _
    have := h j h2 h1
    rw [at_get _ h2, at_get _ (by omega)]
    simp [klt]; omega
  · intro h j hj h1
    have := h j h1 hj (Nat.zero_le _)
    rw [at_get _ hj, at_get _ (by omega)] at this
    simp [klt] at this; omega
theorem heapInit_perm (l : List (Int × Int)) : (heapInit l).Perm l := perm_init klt _ _ l
theorem heapInit_ord (l : List (Int × Int)) : hoB (heapInit l) = true := by
  rw [hoB_iff, heapOrd_iff, heapInit_length]
  exact init_whole (0, 0) (klt_weak fun _ => True) l fun _ _ => trivial
end Go.Proofs.Ytamilehiahgjaaa
