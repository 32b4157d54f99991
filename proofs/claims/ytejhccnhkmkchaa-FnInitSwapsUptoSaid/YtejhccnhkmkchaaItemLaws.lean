/- Plain laws of the heap of items. -/
import Derived.Test.YtejhccnhkmkchaaLawFns
import Derived.Test.YtejhccnhkmkchaaPops
namespace Go.Proofs.Ytejhccnhkmkchaa
set_option linter.unusedVariables false

theorem klt_weak (S : Int × Int → Prop) : Weak klt S := ⟨fun a b _ _ h => by simp [klt] at h ⊢; omega, fun a b c _ _ _ h1 h2 => by simp [klt] at h1 h2 ⊢; omega⟩
theorem heapOrd_iff (l : List (Int × Int)) : HeapOrd l ↔ HP klt (0, 0) l.length 0 l := by
  constructor
  · intro h j h1 h2 _
    have := h j h2 h1
    rw [at_get _ h2, at_get _ (by omega)]
    simp [klt]; omega
  · intro h j hj h1
    have := h j h1 hj (Nat.zero_le _)
    rw [at_get _ hj, at_get _ (by omega)] at this
    simp [klt] at this; omega
theorem heapInit_perm (l : List (Int × Int)) : (heapInit l).Perm l := perm_init klt _ _ l
theorem heapInit_ord (l : List (Int × Int)) : hoB (heapInit l) = true := by
  rw [hoB_iff, heapOrd_iff, heapInit_length]
  exact init_whole (0, 0) (klt_weak fun _ => True) l fun _ _ => trivial
theorem pushF_hp (l : List (Int × Int)) (x : Int × Int) (h : HeapOrd l) : HP klt (0, 0) (pushF klt l x).length 0 (pushF klt l x) :=
  pushF_heap (0, 0) (klt_weak fun _ => True) l x (fun _ _ => trivial) trivial ((heapOrd_iff l).1 h)
theorem pushF_ord (l : List (Int × Int)) (x : Int × Int) (h : HeapOrd l) : hoB (pushF klt l x) = true := by
  rw [hoB_iff, heapOrd_iff]; exact pushF_hp l x h
theorem pushAll_hp (l : List (Int × Int)) : HP klt (0, 0) (pushAll klt l).length 0 (pushAll klt l) := pushAll_heap (0, 0) (klt_weak fun _ => True) l fun _ _ => trivial
theorem pushAll_ord (l : List (Int × Int)) : hoB (pushAll klt l) = true := by
  rw [hoB_iff, heapOrd_iff]; exact pushAll_hp l
theorem popRest_ord (l : List (Int × Int)) (h : HeapOrd l) (h0 : 0 < l.length) : hoB (popRest klt l) = true := by
  rw [hoB_iff, heapOrd_iff]; exact popRest_heap (0, 0) (klt_weak fun _ => True) l (fun _ _ => trivial) h0 ((heapOrd_iff l).1 h)
theorem pop_le (l : List (Int × Int)) (h : HeapOrd l) (h0 : 0 < l.length) : ∀ x ∈ l, (popTop klt (0, 0) l).1 ≤ x.1 := fun x hx => by
  have := popTop_least (0, 0) (klt_weak fun _ => True) l (fun _ _ => trivial) h0 ((heapOrd_iff l).1 h) x hx
  simp [klt] at this; omega
theorem pop_erase (l : List (Int × Int)) (h0 : 0 < l.length) : (popRest klt l).Perm (l.erase (popTop klt (0, 0) l)) := by
  have h := popRest_perm klt (0, 0) l h0
  exact (List.cons_perm_iff_perm_erase.1 ((List.perm_append_singleton _ _).symm.trans h)).2
theorem int_succ (n : Nat) : Value.int .i64 ((n + 1 : Nat) : Int) = .int .i64 ((n : Int) + 1) := by simp
theorem push_root (l : List (Int × Int)) (x : Int × Int) (h : HeapOrd l) (hq : ∀ y ∈ l, x.1 < y.1) : at_ (0, 0) (pushF klt l x) 0 = x := by
  have hl := pushF_length klt l x
  have hm := at_mem (0, 0) (s := pushF klt l x) (i := 0) (by omega)
  have hx : x ∈ pushF klt l x := (pushF_perm klt l x).mem_iff.2 (by simp)
  obtain ⟨j, hj, hjx⟩ := List.getElem_of_mem hx
  have hr := (pushF_hp l x h).root (0, 0) (klt_weak fun _ => True) (fun _ _ => trivial) (Nat.le_refl _) j hj
  rw [at_get _ hj, hjx] at hr
  have hm2 := (pushF_perm klt l x).mem_iff.1 hm
  rcases List.mem_append.1 hm2 with h1 | h1
  · have := hq _ h1
    simp [klt] at hr; omega
  · exact List.mem_singleton.1 h1
end Go.Proofs.Ytejhccnhkmkchaa
