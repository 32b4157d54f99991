/- An Order that came in, opened. -/
import Derived.Test.YtgijkfkfifjokaaArgs
import Derived.Deep.Grids
namespace Go.Proofs.Ytgijkfkfifjokaa
set_option linter.unusedVariables false
open Go.RowKit Go.ChangeShapes Go.WideShapes Go.ChangeAt

theorem wf_fits {x : Int} (h : (Lit.int .i64 x).wf = true) : -9223372036854775808 ≤ x ∧ x ≤ 9223372036854775807 := by
  simp [Lit.wf, IntKind.min, IntKind.max, IntKind.bits, IntKind.signed] at h
  omega

section
variable {H : Type} {enc : TypeId × Value → H} {W : World}
theorem open_order {P : Program} {r : Reach} {b0 : Nat} {T E : TypeId} {f0 f1 : Field} {v : Value} {d : DataW H} {p : List MemPlace} {ts : List TypeId} {ds : List (DataW H)} {j : Nat} (hs : P.underlying T = some (.struct #[f0, f1])) (hone : Deep.oneCellFields P #[f0, f1] = true) (hC : P.cellsOf T = 2)
    (u0 : P.underlying f0.type = some (.int .i64)) (u1 : P.underlying f1.type = some (.slice E)) (ue : P.underlying E = some .bool) (ce : P.cellsOf E = 1) (be : P.bytesOf E = 1)
    (hv : Value.okWide P W r b0 T v) (h : DataW.Trod enc P W 0 (fun _ => true) true T v d p) (hsz : (DataW.weightsEach P ts ds).all (· ≤ reachBytes) = true) (ht : ts[j]? = some T) (hd : ds[j]? = some d) :
    ∃ (z : Int) (a : Option Addr) (c : Nat) (l : List Bool), v = .agg #[.int .i64 z, .slice a l.length c] ∧ (Lit.int .i64 z).wf = true ∧ Sees W W.heap.size 1 a l.length (l.map Value.bool) ∧ l.length ≤ 140737488351232 := by
  obtain ⟨v0, v1, y0, y1, n, rfl, rfl, _, h0, h1⟩ := Joins.open_agg2 hs hone hC hv h
  obtain ⟨z, e0, e1, hw⟩ := DataW.trod_int u0 h0
  simp only [List.cons.injEq, and_true] at e0
  subst e0
  have hw8 : ∀ m ∈ (DataW.agg [y0.1, y1.1]).weights P T, m ≤ reachBytes := fun m hm => of_decide_eq_true (List.all_eq_true.1 hsz _ (DataW.weights_mem_each ht hd m hm))
  simp only [DataW.weights, hs, DataW.weightsEach, List.map_cons, List.map_nil, List.append_nil, List.mem_append] at hw8
  rcases Deep.open_bools u1 ue ce h1 with ⟨hcs, hx⟩ | ⟨a, len, cap, B, hcs, _, hl, hm, hx, hcell⟩
  · simp only [List.cons.injEq, and_true] at hcs
    subst hcs
    exact ⟨z, none, 0, [], rfl, hw, Sees.empty, by simp⟩
  · simp only [List.cons.injEq, and_true] at hcs
    subst hcs
    subst hx
    refine ⟨z, some a, cap, (List.range len).map B, by simp, hw, ?_, ?_⟩
    · refine sees_of_cells (by decide) (by simp) fun j u hu => ?_
      have hj : j < len := by have := (List.getElem?_eq_some_iff.1 hu).1; simpa using this
      rw [hcell j (by omega)]
      simpa [hj] using hu
    · have := hw8 _ (.inr (by simp only [Deep.boolRow, DataW.weights, u1, List.mem_cons]; exact .inl rfl))
      simp [be, reachBytes] at this
      simp
      omega
end
end Go.Proofs.Ytgijkfkfifjokaa
