/- Strings in memory, and their order. -/
import Derived.Test.YtibdaodneipmjaaRow
import Derived.Test.YtibdaodneipmjaaPops
import Derived.Deep.QuietTactic
import Derived.BigQuiet
import Derived.Deep.RegionWith
import Derived.Laws.Cover1
import Derived.WideShapes
namespace Go.Proofs.Ytibdaodneipmjaa
set_option linter.unusedVariables false
open Go.RowKit

theorem info_text : (Try.prog.info? 9).map (fun i => (i.zero, i.size, i.bytes)) = some (some (.string ByteArray.empty), 1, 16) := by kernel_rfl
theorem one_text (k : ByteArray) : ∀ u ∈ [Value.string k], u.oneCell' = true := by
  intro u hu
  rw [List.mem_singleton.1 hu]; rfl
theorem strs_at (l : List ByteArray) (i : Nat) (h : i < l.length) : (l.map Value.string)[i]? = some (.string l[i]) := by simp [h]
theorem strs_cells (l : List ByteArray) : ∀ u ∈ l.map Value.string, u.oneCell' = true := by
  intro u hu
  obtain ⟨x, _, rfl⟩ := List.mem_map.1 hu
  rfl
/-- A new slice of strings is handed back; nothing that was there has turned. -/
def NewStrs (w : World) (l : List ByteArray) (e : Ending) (w' : World) : Prop :=
  ∃ A c, e = .returned (.slice A l.length c) ∧ w'.ownsRow w.heap.size 9 1 (.slice A l.length c) l.length (l.map Value.string) ∧ Below w.heap.size w w'
theorem newt_eq {P : Program} {f : FuncId} {args : Array Value} {w : World} {l l' : List ByteArray} (h : Calls P f args w (NewStrs w l)) (e : l = l') : Calls P f args w (NewStrs w l') := e ▸ h

def tlt (x y : ByteArray) : Bool := Op.bytesLess x.toList y.toList
theorem bl_asym : ∀ (x y : List UInt8), Op.bytesLess x y = true → Op.bytesLess y x = false
  | [], [], h => by simp [Op.bytesLess] at h
  | [], _ :: _, _ => by simp [Op.bytesLess]
  | _ :: _, [], h => by simp [Op.bytesLess] at h
  | a :: x, b :: y, h => by
    have ih := bl_asym x y
    simp only [Op.bytesLess, Bool.or_eq_true, decide_eq_true_eq, Bool.and_eq_true, beq_iff_eq, Bool.or_eq_false_iff, decide_eq_false_iff_not, Bool.and_eq_false_iff, beq_eq_false_iff_ne, UInt8.lt_iff_toNat_lt] at h ⊢
    rcases h with h | ⟨h, h2⟩
    · exact ⟨by omega, .inl fun e => by rw [e] at h; omega⟩
    · exact ⟨by rw [h]; omega, .inr (ih h2)⟩
theorem bl_anti : ∀ (x y : List UInt8), Op.bytesLess x y = false → Op.bytesLess y x = false → x = y
  | [], [], _, _ => rfl
  | [], _ :: _, h, _ => by simp [Op.bytesLess] at h
  | _ :: _, [], _, h => by simp [Op.bytesLess] at h
  | a :: x, b :: y, h, h2 => by
    have ih := bl_anti x y
    simp only [Op.bytesLess, Bool.or_eq_false_iff, decide_eq_false_iff_not, Bool.and_eq_false_iff, beq_eq_false_iff_ne, UInt8.lt_iff_toNat_lt] at h h2
    have e : a = b := UInt8.toNat_inj.1 (by omega)
    subst e
    rcases h.2 with h3 | h3
    · exact absurd rfl h3
    · rcases h2.2 with h4 | h4
      · exact absurd rfl h4
      · rw [ih h3 h4]
theorem bl_trans : ∀ (x y z : List UInt8), Op.bytesLess x y = false → Op.bytesLess y z = false → Op.bytesLess x z = false
  | x, y, [], _, _ => by cases x <;> simp [Op.bytesLess]
  | [], [], _ :: _, _, h => by simp [Op.bytesLess] at h
  | [], _ :: _, _ :: _, h, _ => by simp [Op.bytesLess] at h
  | _ :: _, [], _ :: _, _, h => by simp [Op.bytesLess] at h
  | a :: x, b :: y, c :: z, h, h2 => by
    have ih := bl_trans x y z
    simp only [Op.bytesLess, Bool.or_eq_false_iff, decide_eq_false_iff_not, Bool.and_eq_false_iff, beq_eq_false_iff_ne, UInt8.lt_iff_toNat_lt] at h h2 ⊢
    refine ⟨by omega, ?_⟩
    by_cases e : a = c
    · subst e
      have e2 : a = b := UInt8.toNat_inj.1 (by omega)
      subst e2
      rcases h.2 with h3 | h3
      · exact absurd rfl h3
      · rcases h2.2 with h4 | h4
        · exact absurd rfl h4
        · exact .inr (ih h3 h4)
    · exact .inl e
theorem tlt_weak (S : ByteArray → Prop) : Weak tlt S := ⟨fun a b _ _ h => bl_asym _ _ h, fun a b c _ _ _ h1 h2 => bl_trans _ _ _ h2 h1⟩
theorem bytes_ext {x y : ByteArray} (h : x.toList = y.toList) : x = y := by
  rw [ByteArray.toList_eq, ByteArray.toList_eq] at h
  exact WideShapes.bytes_inj h
theorem tlt_anti {x y : ByteArray} (h : tlt x y = false) (h2 : tlt y x = false) : x = y := bytes_ext (bl_anti _ _ h h2)
theorem beq_text (x y : ByteArray) : (x.toList == y.toList) = decide (x = y) := by
  by_cases h : x = y
  · subst h; simp
  · rw [decide_eq_false h, beq_eq_false_iff_ne]; exact fun e => h (bytes_ext e)
end Go.Proofs.Ytibdaodneipmjaa
