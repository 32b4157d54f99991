/- The laws' arguments, opened to lists: items, numbers, strings, bools; what the form's reach and the bound of an 'upto' statement give. -/
import Derived.Test.YtpglibneflefgaaRow
import Derived.ProofKit
import Derived.Deep.SlicePairs
import Derived.Lib.SmallJoins
import Derived.Deep.CondSized
namespace Go.Proofs.Ytpglibneflefgaa
set_option linter.unusedVariables false
open Go.RowKit Go.ChangeShapes Go.WideShapes Go.ChangeAt

theorem Try.own : ownKnob Try.prog.godebug = none := by kernel_rfl
theorem Try.laidOut : laidOutB Try.prog = true := by kernel_rfl

theorem sees_of_cells {W : World} {a : Addr} {n size : Nat} {cs : List Value} (hsz : 0 < size) (hl : cs.length = n * size) (hc : ∀ j u, cs[j]? = some u → W.cell? (a.add j) = some u) : Sees W W.heap.size size (some a) n cs := by
  refine ⟨hl, fun hn => ?_⟩
  have h0 : 0 < cs.length := by rw [hl]; exact Nat.mul_pos hn hsz
  have hc0 := hc 0 cs[0] (List.getElem?_eq_getElem h0)
  obtain ⟨b, off, spot⟩ := a
  have hspot : spot = none := by simpa [Addr.add] using World.cell?_spot hc0
  subst hspot
  refine ⟨b, off, rfl, ?_, fun j u hu => by have := hc j u hu; rwa [add_at] at this⟩
  rw [add_at] at hc0
  exact block_lt_of_cell hc0

section
variable {H : Type} {enc : TypeId × Value → H} {W : World}
def idat (x : Int × Int) : DataW H := .agg [.lit (.int .i64 x.1), .lit (.int .i64 x.2)]

theorem open_items {P : Program} {T E : TypeId} {f0 f1 : Field} {a0 : Option Addr} {len cap : Nat} {d : DataW H} {p : List MemPlace} (ht : P.underlying T = some (.slice E)) (he : P.underlying E = some (.struct #[f0, f1]))
    (ce : P.cellsOf E = 2) (o0 : f0.offset = 0) (o1 : f1.offset = 1) (c0 : P.cellsOf f0.type = 1) (c1 : P.cellsOf f1.type = 1) (u0 : P.underlying f0.type = some (.int .i64)) (u1 : P.underlying f1.type = some (.int .i64))
    (h : DataW.Trod enc P W 0 (fun _ => true) true T (.slice a0 len cap) d p) :
    ∃ l : List (Int × Int), len = l.length ∧ Sees W W.heap.size 2 a0 l.length (ics l) ∧ ((d = .nil ∧ l = []) ∨ ∃ spare, d = .slice (l.map idat) spare) := by
  obtain ⟨fuel, hf⟩ := h
  rcases Deep.open_slice_pairs ht he ce o0 o1 c0 c1 hf with ⟨hcs, hx⟩ | ⟨a, len', cap', m, n, V0, V1, D0, D1, P0, P1, hcs, _, hl, hm, hmm, hx, hi⟩
  · simp [Value.cells] at hcs
    obtain ⟨rfl, rfl, rfl⟩ := hcs
    simp only [Prod.mk.injEq] at hx
    exact ⟨[], rfl, Sees.empty, .inl ⟨hx.1, rfl⟩⟩
  · simp [Value.cells] at hcs
    obtain ⟨rfl, rfl, rfl⟩ := hcs
    simp only [Prod.mk.injEq] at hx
    have hlm : len ≤ m := by rw [hmm]; simp; omega
    have k0 : ∀ i, i < len → ∃ q, V0 i = .int .i64 q ∧ D0 i = .lit (.int .i64 q) := fun i hi' => by
      obtain ⟨q, e1, e2, _⟩ := DataW.trod_int u0 (hi i (by omega)).2.2.1
      simp only [Prod.mk.injEq] at e2
      exact ⟨q, by simpa using e1, e2.1⟩
    have k1 : ∀ i, i < len → ∃ q, V1 i = .int .i64 q ∧ D1 i = .lit (.int .i64 q) := fun i hi' => by
      obtain ⟨q, e1, e2, _⟩ := DataW.trod_int u1 (hi i (by omega)).2.2.2
      simp only [Prod.mk.injEq] at e2
      exact ⟨q, by simpa using e1, e2.1⟩
    refine ⟨(List.range len).map fun i => (intOf (V0 i), intOf (V1 i)), by simp, ?_, .inr ⟨(List.range (m - len)).map fun j => .agg [D0 (len + j), D1 (len + j)], hx.1.trans ?_⟩⟩
    · refine sees_of_cells (by decide) (by simp) fun j u hu => ?_
      have hj : j < len * 2 := by have := (List.getElem?_eq_some_iff.1 hu).1; simpa using this
      have hq : j / 2 < len := by omega
      obtain ⟨q0, e0, _⟩ := k0 _ hq
      obtain ⟨q1, e1, _⟩ := k1 _ hq
      have hlen : j / 2 < ((List.range len).map fun i => (intOf (V0 i), intOf (V1 i))).length := by simpa using hq
      rcases Nat.mod_two_eq_zero_or_one j with hr | hr
      · have ej : j = j / 2 * 2 := by omega
        rw [ej, ics_key _ _ hlen] at hu
        rw [ej, (hi (j / 2) (by omega)).1, e0]
        simpa [intOf, e0] using hu
      · have ej : j = j / 2 * 2 + 1 := by omega
        rw [ej, ics_tag _ _ hlen] at hu
        rw [ej, (hi (j / 2) (by omega)).2.1, e1]
        simpa [intOf, e1] using hu
    · congr 1
      rw [List.map_map]
      refine List.map_congr_left fun i hi' => ?_
      have hi' := List.mem_range.1 hi'
      obtain ⟨q0, e0, d0⟩ := k0 i hi'
      obtain ⟨q1, e1, d1⟩ := k1 i hi'
      simp [idat, intOf, e0, e1, d0, d1]

theorem items_reach {P : Program} {ts : List TypeId} {ds : List (DataW H)} (hsz : (DataW.weightsEach P ts ds).all (· ≤ reachBytes) = true) {j : Nat} {T E : TypeId} {d : DataW H} {l : List (Int × Int)}
    (ht : ts[j]? = some T) (hd : ds[j]? = some d) (hu : P.underlying T = some (.slice E)) (hb : P.bytesOf E = 16) (h : (d = .nil ∧ l = []) ∨ ∃ spare, d = .slice (l.map idat) spare) : l.length * 16 ≤ 140737488351232 := by
  rcases h with ⟨_, rfl⟩ | ⟨spare, rfl⟩
  · simp
  · have := sized_slice hsz ht hd hu
    rw [hb] at this
    simp only [List.length_map, reachBytes] at this
    omega
theorem open_item {P : Program} {r : Reach} {b0 : Nat} {T : TypeId} {f0 f1 : Field} {v : Value} {d : DataW H} {p : List MemPlace} (hs : P.underlying T = some (.struct #[f0, f1])) (hone : Deep.oneCellFields P #[f0, f1] = true) (hC : P.cellsOf T = 2)
    (u0 : P.underlying f0.type = some (.int .i64)) (u1 : P.underlying f1.type = some (.int .i64)) (hv : Value.okWide P W r b0 T v) (h : DataW.Trod enc P W 0 (fun _ => true) true T v d p) :
    ∃ k t : Int, v = .agg #[.int .i64 k, .int .i64 t] ∧ d = idat (k, t) := by
  obtain ⟨v0, v1, y0, y1, n, rfl, rfl, _, h0, h1⟩ := Joins.open_agg2 hs hone hC hv h
  obtain ⟨k, e0, e1, _⟩ := DataW.trod_int u0 h0
  obtain ⟨t, e2, e3, _⟩ := DataW.trod_int u1 h1
  simp only [List.cons.injEq, and_true] at e0 e2
  subst e0 e1 e2 e3
  exact ⟨k, t, rfl, rfl⟩

theorem open_nums {P : Program} {T E : TypeId} {a0 : Option Addr} {len cap : Nat} {d : DataW H} {p : List MemPlace} (ht : P.underlying T = some (.slice E)) (he : P.underlying E = some (.int .i64)) (ce : P.cellsOf E = 1)
    (h : DataW.Trod enc P W 0 (fun _ => true) true T (.slice a0 len cap) d p) :
    ∃ l : List Int, len = l.length ∧ Sees W W.heap.size 1 a0 l.length (l.map (Value.int .i64)) ∧ (∀ x ∈ l, (Lit.int .i64 x).wf = true) ∧ ((d = .nil ∧ l = []) ∨ ∃ spare, d = .slice (l.map fun x => .lit (.int .i64 x)) spare) := by
  obtain ⟨fuel, hf⟩ := h
  rcases open_ints ht he ce hf with ⟨hcs, hx⟩ | ⟨a, len', cap', zs, hcs, _, hl, hm, hz, hx, hcell, hwz⟩
  · simp [Value.cells] at hcs
    obtain ⟨rfl, rfl, rfl⟩ := hcs
    simp only [Prod.mk.injEq] at hx
    exact ⟨[], rfl, Sees.empty, by simp, .inl ⟨hx.1, rfl⟩⟩
  · simp [Value.cells] at hcs
    obtain ⟨rfl, rfl, rfl⟩ := hcs
    simp only [Prod.mk.injEq] at hx
    simp only [if_true] at hz
    have hlen : (zs.take len).length = len := by rw [List.length_take]; omega
    refine ⟨zs.take len, hlen.symm, ?_, fun x hx => hwz x (List.mem_of_mem_take hx), .inr ⟨_, hx.1⟩⟩
    refine sees_of_cells (by decide) (by simp) fun j u hu => ?_
    have hj : j < len := by have := (List.getElem?_eq_some_iff.1 hu).1; rw [List.length_map, hlen] at this; exact this
    rw [hcell j (by omega)]
    rw [List.getElem?_map, List.getElem?_take, if_pos hj] at hu
    simpa [List.getD, show j < zs.length by omega] using hu

theorem open_texts {P : Program} {T E : TypeId} {a0 : Option Addr} {len cap : Nat} {d : DataW H} {p : List MemPlace} (ht : P.underlying T = some (.slice E)) (he : P.underlying E = some .string) (ce : P.cellsOf E = 1)
    (h : DataW.Trod enc P W 0 (fun _ => true) true T (.slice a0 len cap) d p) :
    ∃ l : List ByteArray, len = l.length ∧ Sees W W.heap.size 1 a0 l.length (l.map Value.string) ∧ (∀ x ∈ l, x.size ≤ maxLen) ∧ ((d = .nil ∧ l = []) ∨ ∃ spare, d = .slice (l.map fun x => .lit (.string x.data.toList)) spare) := by
  obtain ⟨fuel, hf⟩ := h
  rcases open_strings ht he ce hf with ⟨hcs, hx⟩ | ⟨a, len', cap', zs, hcs, _, hl, hm, hz, hx, hcell, hwz⟩
  · simp [Value.cells] at hcs
    obtain ⟨rfl, rfl, rfl⟩ := hcs
    simp only [Prod.mk.injEq] at hx
    exact ⟨[], rfl, Sees.empty, by simp, .inl ⟨hx.1, rfl⟩⟩
  · simp [Value.cells] at hcs
    obtain ⟨rfl, rfl, rfl⟩ := hcs
    simp only [Prod.mk.injEq] at hx
    simp only [if_true] at hz
    have hlen : (zs.take len).length = len := by rw [List.length_take]; omega
    refine ⟨zs.take len, hlen.symm, ?_, fun x hx => hwz x (List.mem_of_mem_take hx), .inr ⟨_, hx.1⟩⟩
    refine sees_of_cells (by decide) (by simp) fun j u hu => ?_
    have hj : j < len := by have := (List.getElem?_eq_some_iff.1 hu).1; rw [List.length_map, hlen] at this; exact this
    rw [hcell j (by omega)]
    rw [List.getElem?_map, List.getElem?_take, if_pos hj] at hu
    simpa [List.getD, show j < zs.length by omega] using hu

theorem nums_reach {P : Program} {ts : List TypeId} {ds : List (DataW H)} (hsz : (DataW.weightsEach P ts ds).all (· ≤ reachBytes) = true) {j : Nat} {T E : TypeId} {d : DataW H} {α : Type} {f : α → DataW H} {l : List α} {k : Nat}
    (ht : ts[j]? = some T) (hd : ds[j]? = some d) (hu : P.underlying T = some (.slice E)) (hb : P.bytesOf E = k) (h : (d = .nil ∧ l = []) ∨ ∃ spare, d = .slice (l.map f) spare) : l.length * k ≤ 140737488351232 := by
  rcases h with ⟨_, rfl⟩ | ⟨spare, rfl⟩
  · simp
  · have := sized_slice hsz ht hd hu
    rw [hb] at this
    simp only [List.length_map, reachBytes] at this
    exact Nat.le_trans (Nat.mul_le_mul_right _ (Nat.le_add_right _ _)) this
end

section
variable {H : Type}
theorem bulk_one (d : DataW H) : 1 ≤ Rows.uptoBulk d := by
  cases d with
  | lit l => cases l <;> simp [Rows.uptoBulk]
  | nil => simp [Rows.uptoBulk]
  | ptr d => simp [Rows.uptoBulk]
  | slice elems spare => simp [Rows.uptoBulk]
  | agg parts => simp [Rows.uptoBulk]
  | iface t d => simp [Rows.uptoBulk]
  | map entries => simp [Rows.uptoBulk]
  | held h => simp [Rows.uptoBulk]
theorem bulk_length (l : List (DataW H)) : l.length ≤ Rows.uptoBulkAll l := by
  induction l with
  | nil => simp [Rows.uptoBulkAll]
  | cons x r ih => have := bulk_one x; simp only [Rows.uptoBulkAll, List.length_cons]; omega
theorem bulk_slice {α : Type} {f : α → DataW H} {l : List α} {d : DataW H} (h : (d = .nil ∧ l = []) ∨ ∃ spare, d = .slice (l.map f) spare) : l.length ≤ Rows.uptoBulk d := by
  rcases h with ⟨_, rfl⟩ | ⟨spare, rfl⟩
  · simp
  · have := bulk_length (l.map f)
    simp only [Rows.uptoBulk, List.length_map] at this ⊢
    omega
end
end Go.Proofs.Ytpglibneflefgaa
