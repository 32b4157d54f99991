/- Plain laws of the first pops; a slice of a slice. -/
import Derived.Test.YtibdaodneipmjaaFirst
namespace Go.Proofs.Ytibdaodneipmjaa
set_option linter.unusedVariables false
open Go.RowKit
theorem firstF_take (k : Int) (l : List Int) : firstF k l = (sortF ilt 0 l).take (min k.toNat (sortF ilt 0 l).length) := by
  unfold firstF
  rcases Nat.le_total k.toNat (sortF ilt 0 l).length with h | h
  · rw [Nat.min_eq_left h]
  · rw [Nat.min_eq_right h, List.take_of_length_le h, List.take_of_length_le (Nat.le_refl _)]
theorem sees_take {w : World} {B : Nat} {A : Option Addr} {l : List Int} {m : Nat} (h : Sees w B 1 A l.length (l.map (Value.int .i64))) (hm : m ≤ l.length) : Sees w B 1 A m ((l.take m).map (Value.int .i64)) := by
  refine ⟨by rw [List.length_map, List.length_take]; omega, fun h0 => ?_⟩
  obtain ⟨b, off, e, hb, hc⟩ := h.2 (by omega)
  refine ⟨b, off, e, hb, fun j u hu => hc j u ?_⟩
  rw [List.map_take, List.getElem?_take] at hu
  split at hu
  · exact hu
  · cases hu
theorem calls_len {P : Program} {f : FuncId} {a : Value} {A : Option Addr} {n n' c : Nat} {w : World} {Q : Ending → World → Prop} (h : Calls P f #[a, .slice A n' c] w Q) (e : n' = n) : Calls P f #[a, .slice A n c] w Q := e ▸ h
end Go.Proofs.Ytibdaodneipmjaa
