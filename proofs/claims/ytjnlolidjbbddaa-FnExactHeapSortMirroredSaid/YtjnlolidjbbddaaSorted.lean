/- Ascending lists of numbers: one list for one multiset. -/
import Derived.Test.YtjnlolidjbbddaaPops
namespace Go.Proofs.Ytjnlolidjbbddaa
set_option linter.unusedVariables false

theorem sorted_eq : ∀ {a b : List Int}, a.Perm b → a.Pairwise (· ≤ ·) → b.Pairwise (· ≤ ·) → a = b
  | [], b, h, _, _ => h.nil_eq
  | x :: a, [], h, _, _ => by have := h.length_eq; simp at this
  | x :: a, y :: b, h, ha, hb => by
    have h1 : y ∈ x :: a := h.mem_iff.2 (by simp)
    have h2 : x ∈ y :: b := h.mem_iff.1 (by simp)
    rw [List.pairwise_cons] at ha hb
    have e : x = y := by
      rcases List.mem_cons.1 h1 with h | h
      · exact h.symm
      · rcases List.mem_cons.1 h2 with h' | h'
        · exact h'
        · have := ha.1 y h; have := hb.1 x h'; omega
    subst e
    rw [sorted_eq (List.perm_cons _ |>.1 h) ha.2 hb.2]
def ilt (a b : Int) : Bool := decide (a < b)
def igt (a b : Int) : Bool := decide (b < a)
theorem ilt_weak (S : Int → Prop) : Weak ilt S := ⟨fun a b _ _ h => by simp [ilt] at h ⊢; omega, fun a b c _ _ _ h1 h2 => by simp [ilt] at h1 h2 ⊢; omega⟩
theorem igt_weak (S : Int → Prop) : Weak igt S := ⟨fun a b _ _ h => by simp [igt] at h ⊢; omega, fun a b c _ _ _ h1 h2 => by simp [igt] at h1 h2 ⊢; omega⟩
theorem le_of_ilt {l : List Int} (h : l.Pairwise fun a b => ilt b a = false) : l.Pairwise (· ≤ ·) := h.imp fun h => by simp [ilt] at h; omega
theorem ge_of_igt {l : List Int} (h : l.Pairwise fun a b => igt b a = false) : l.Pairwise (fun a b => b ≤ a) := h.imp fun h => by simp [igt] at h; omega
theorem sortI_le (l : List Int) : (sortF ilt 0 l).Pairwise (· ≤ ·) := le_of_ilt (sortF_sorted 0 (ilt_weak fun _ => True) l fun _ _ => trivial)
theorem sortG_ge (l : List Int) : (sortF igt 0 l).Pairwise (fun a b => b ≤ a) := ge_of_igt (sortF_sorted 0 (igt_weak fun _ => True) l fun _ _ => trivial)
theorem up_get {l : List Int} (h : l.Pairwise (· ≤ ·)) : ∀ j (hj : j < l.length), 1 ≤ j → l[j - 1]'(by omega) ≤ l[j] := fun j hj h1 =>
  List.pairwise_iff_getElem.1 h (j - 1) j (by omega) hj (by omega)
theorem greatest_rev (l : List Int) : sortF igt 0 l = (sortF ilt 0 l).reverse := by
  have h : (sortF igt 0 l).reverse = sortF ilt 0 l := by
    refine sorted_eq (((List.reverse_perm _).trans (sortF_perm 0 igt l)).trans (sortF_perm 0 ilt l).symm) ?_ (sortI_le l)
    rw [List.pairwise_reverse]; exact sortG_ge l
  rw [← h, List.reverse_reverse]
/-- Pushes one by one onto an empty heap, then pops. -/
def pushSort (l : List Int) : List Int := popsF ilt 0 l.length (pushAll ilt l)
theorem pushSort_length (l : List Int) : (pushSort l).length = l.length := popsF_length ilt 0 _ _
theorem pushSort_eq (l : List Int) : sortF ilt 0 l = pushSort l := by
  refine sorted_eq ((sortF_perm 0 ilt l).trans ((popsF_perm ilt 0 _ _ (pushAll_length ilt l)).trans (pushAll_perm ilt l)).symm) (sortI_le l) (le_of_ilt ?_)
  refine popsF_sorted 0 (ilt_weak fun _ => True) _ _ (pushAll_length ilt l) (fun _ _ => trivial) ?_
  have := pushAll_heap 0 (ilt_weak fun _ => True) l fun _ _ => trivial
  exact this
end Go.Proofs.Ytjnlolidjbbddaa
