/- The order of ranks: its table, and that sorting by it sorts the ranks. No program in sight. -/
import Derived.Test.YtgijkfkfifjokaaBefore
import Derived.Test.YtgijkfkfifjokaaSorted
namespace Go.Proofs.Ytgijkfkfifjokaa
set_option linter.unusedVariables false

def tblRow (r : List Int) (a : Int) : List Bool := r.map fun b => decide (a < b)
def tblP (r : List Int) (i : Nat) : List Bool := (r.take i).flatMap (tblRow r)
def tbl (r : List Int) : List Bool := r.flatMap (tblRow r)
@[simp] theorem tblRow_length (r : List Int) (a : Int) : (tblRow r a).length = r.length := by simp [tblRow]
theorem tblP_length (r : List Int) : ∀ i, i ≤ r.length → (tblP r i).length = i * r.length
  | 0, _ => by simp [tblP]
  | i + 1, h => by
    have ih := tblP_length r i (by omega)
    unfold tblP at ih ⊢
    rw [List.take_succ_eq_append_getElem (by omega), List.flatMap_append, List.length_append, ih, Nat.add_mul]
    simp
theorem tblP_all (r : List Int) : tblP r r.length = tbl r := by simp [tblP, tbl]
theorem tblP_succ (r : List Int) (i : Nat) (h : i < r.length) : tblP r (i + 1) = tblP r i ++ tblRow r r[i] := by
  unfold tblP
  rw [List.take_succ_eq_append_getElem h, List.flatMap_append]
  simp
theorem tbl_length (r : List Int) : (tbl r).length = r.length * r.length := by rw [← tblP_all, tblP_length r _ (Nat.le_refl _)]
theorem tblP_part (r : List Int) (i j : Nat) (hi : i < r.length) (hj : j < r.length) : (tblP r i ++ (tblRow r r[i]).take j).length = i * r.length + j := by
  rw [List.length_append, tblP_length r i (by omega), List.length_take, tblRow_length]; omega
theorem tblRow_take (r : List Int) (a : Int) (j : Nat) (hj : j < r.length) : (tblRow r a).take (j + 1) = (tblRow r a).take j ++ [decide (a < r[j])] := by
  rw [List.take_succ_eq_append_getElem (by simpa using hj)]
  simp [tblRow]
theorem tbl_get (r : List Int) (i j : Nat) (hi : i < r.length) (hj : j < r.length) : (tbl r)[i * r.length + j]? = some (decide (r[i] < r[j])) := by
  have h : tbl r = tblP r i ++ (tblRow r r[i] ++ (r.drop (i + 1)).flatMap (tblRow r)) := by
    unfold tbl tblP
    rw [← List.append_assoc]
    conv => lhs; rw [← List.take_append_drop (i + 1) r, List.flatMap_append, List.take_succ_eq_append_getElem hi, List.flatMap_append]
    simp
  have hl := tblP_length r i (by omega)
  rw [h, List.getElem?_append_right (by omega), hl, Nat.add_sub_cancel_left, List.getElem?_append_left (by simpa using hj)]
  simp [tblRow, hj]
def rk (r : List Int) (v : Int) : Int := r.getD v.toNat 0
theorem bef_tbl (r : List Int) (a b : Int) (ha : 0 ≤ a ∧ a < r.length) (hb : 0 ≤ b ∧ b < r.length) : bef r.length (tbl r) a b = ilt (rk r a) (rk r b) := by
  obtain ⟨i, rfl⟩ : ∃ i : Nat, a = (i : Int) := ⟨a.toNat, by omega⟩
  obtain ⟨j, rfl⟩ : ∃ j : Nat, b = (j : Int) := ⟨b.toNat, by omega⟩
  have hi : i < r.length := by omega
  have hj : j < r.length := by omega
  have hl := tbl_length r
  have hij : i * r.length + j < r.length * r.length := by
    have : (i + 1) * r.length ≤ r.length * r.length := Nat.mul_le_mul_right _ hi
    rw [Nat.add_mul] at this
    omega
  have hcast : (i : Int) * (r.length : Int) + (j : Int) = ((i * r.length + j : Nat) : Int) := by simp
  rw [bef_yes]
  · rw [hcast, Int.toNat_natCast, List.getD_eq_getElem?_getD, tbl_get r i j hi hj]
    simp [ilt, rk, hi, hj]
  · rw [hcast, hl]
    have hd : 0 < (i : Int) → (r.length : Int) ≤ ((r.length * r.length : Nat) : Int) / (i : Int) := fun h => by
      rw [Int.le_ediv_iff_mul_le h]
      have : r.length * i ≤ r.length * r.length := Nat.mul_le_mul_left _ (by omega)
      exact_mod_cast this
    rintro (h | h | h | h | ⟨h1, h2⟩ | h)
    · omega
    · omega
    · omega
    · omega
    · have := hd h1; omega
    · omega

section
variable (r : List Int) (x : List Int)
theorem bef_tbl_weak : Weak (bef r.length (tbl r)) (fun v => 0 ≤ v ∧ v < r.length) :=
  ⟨fun a b ha hb h => by rw [bef_tbl r a b ha hb] at h; rw [bef_tbl r b a hb ha]; simp [ilt] at h ⊢; omega,
   fun a b c ha hb hc h1 h2 => by rw [bef_tbl r b a hb ha] at h1; rw [bef_tbl r c b hc hb] at h2; rw [bef_tbl r c a hc ha]; simp [ilt] at h1 h2 ⊢; omega⟩
theorem ranks_sorted (hx : ∀ v ∈ x, 0 ≤ v ∧ v < r.length) : (sortF (bef r.length (tbl r)) 0 x).map (rk r) = sortF ilt 0 (x.map (rk r)) := by
  have hy : ∀ v ∈ sortF (bef r.length (tbl r)) 0 x, 0 ≤ v ∧ v < r.length := fun v hv => hx v ((sortF_perm 0 _ x).mem_iff.1 hv)
  refine sorted_eq (((sortF_perm 0 _ x).map _).trans (sortF_perm 0 ilt _).symm) ?_ (sortI_le _)
  rw [List.pairwise_map]
  refine List.Pairwise.imp_of_mem ?_ (sortF_sorted 0 (bef_tbl_weak r) x hx)
  intro a b ha hb h
  rw [bef_tbl r b a (hy b hb) (hy a ha)] at h
  simp [ilt] at h
  omega
end
end Go.Proofs.Ytgijkfkfifjokaa
