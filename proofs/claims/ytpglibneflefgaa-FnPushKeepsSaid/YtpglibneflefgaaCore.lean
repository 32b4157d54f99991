/- A method called through an interface value, as one law of the walk. -/
import Derived.Test.YtpglibneflefgaaRows
import Derived.WalkKit
import Derived.WalkSpells
import Derived.WalkLawsBesides
import Derived.Deep.LoopGhost
namespace Go.Proofs.Ytpglibneflefgaa
set_option linter.unusedVariables false
open Go.RowKit

/-- The method 'name' of '.iface T rv', called with args in world w, behaves as R says. -/
def Meth (P : Program) (T : TypeId) (rv : Value) (name : String) (args : Array Value) (w : World) (R : Ending → World → Prop) : Prop :=
  ∃ f recv, (method (P.types.size + Made.depth) T rv name).run P w = .ok (f, recv) w ∧
    (∀ xs w, (callFunc f xs).run P w = .ok (.enter f xs) w) ∧ Calls P f (#[recv] ++ args) w R

theorem Meth.mono {P : Program} {T : TypeId} {rv : Value} {name : String} {args : Array Value} {w : World} {R R' : Ending → World → Prop}
    (h : Meth P T rv name args w R) (hr : ∀ e w', R e w' → R' e w') : Meth P T rv name args w R' := by
  obtain ⟨f, recv, h1, h2, h3⟩ := h
  exact ⟨f, recv, h1, h2, h3.mono hr⟩

theorem run_callMethod {P : Program} {T : TypeId} {rv : Value} {name : String} {args : Array Value} {w : World} {f : FuncId} {recv : Value}
    (hm : (method (P.types.size + Made.depth) T rv name).run P w = .ok (f, recv) w)
    (he : ∀ xs w, (callFunc f xs).run P w = .ok (.enter f xs) w) :
    (callMethod (.iface T rv) name args).run P w = .ok (.enter f (#[recv] ++ args)) w := by
  unfold callMethod
  simp only [program, Sem.run_bind, Sem.run, Result.andThen_ok, hm, he]

theorem wp_meth {P : Program} {o : Oper} {a : Act} {w : World} {K : Act → World → Prop} {Q : Exit → Act → World → Prop}
    (s : Operand) (name : String) (xs : Array Operand) (ts : Array TypeId)
    (ho : o.op = .call { callee := .invoke s name, args := xs, argTypes := ts })
    (T : TypeId) (rv : Value) (hs : a.eval s = .iface T rv) (v : Value) (R : World → Prop)
    (h : Meth P T rv name (xs.map a.eval) w (fun e w' => e = .returned v ∧ R w'))
    (hk : ∀ w', R w' → K (a.put o.dst v) w') : o.wp P a w K Q := by
  obtain ⟨f, recv, hm, he, hc⟩ := h
  unfold Oper.wp execOp
  rw [ho]
  have hrun : (do
      let d ← resolve a.eval { callee := .invoke s name, args := xs, argTypes := ts } o.type
      invoke d.target d.args : Sem Next).run P w = .ok (.enter f (#[recv] ++ xs.map a.eval)) w := by
    have e0 : (#[Value.iface T rv] ++ Array.map a.eval xs)[0]? = some (.iface T rv) := by rw [Array.getElem?_append_left (by simp)]; rfl
    have e1 : (#[Value.iface T rv] ++ Array.map a.eval xs).extract 1 (#[Value.iface T rv] ++ Array.map a.eval xs).size = xs.map a.eval := by
      simp [Array.extract_append]
    simp only [resolve, invoke, hs, Sem.run_bind, Sem.run_pure, Result.andThen_ok]
    rw [e0, e1]
    exact run_callMethod hm he
  simp only [hrun, Oper.upon_enter]
  exact hc.mono fun e w' ⟨h1, h2⟩ => by subst h1; exact hk w' h2

theorem wpList_meth {P : Program} {ops : Array Oper} {rest : List Oper} {o : Oper} {a : Act} {w : World} {Q : Exit → Act → World → Prop}
    (hw : Region.wanted o (yielded ops a.tmps) = true)
    (s : Operand) (name : String) (xs : Array Operand) (ts : Array TypeId)
    (ho : o.op = .call { callee := .invoke s name, args := xs, argTypes := ts })
    (T : TypeId) (rv : Value) (hs : a.eval s = .iface T rv) (v : Value) (R : World → Prop)
    (h : Meth P T rv name (xs.map a.eval) w (fun e w' => e = .returned v ∧ R w'))
    (hk : ∀ w', R w' → wpList P ops Q rest (a.put o.dst v) w') : wpList P ops Q (o :: rest) a w := by
  refine wpList_step fun K hK => ?_
  rw [if_pos hw]
  exact wp_meth s name xs ts ho T rv hs v R h fun w' hr => hK _ _ (hk w' hr)

section
variable {P : Program} {ops : Array Oper} {rest : List Oper} {o : Oper} {a : Act} {w : World} {Q : Exit → Act → World → Prop}
theorem wpList_meth0 (hw : Region.wanted o (yielded ops a.tmps) = true) (s : Operand) (name : String) (ts : Array TypeId)
    (ho : o.op = .call { callee := .invoke s name, args := #[], argTypes := ts })
    (T : TypeId) (rv : Value) (hs : a.eval s = .iface T rv) (v : Value) (R : World → Prop)
    (h : Meth P T rv name #[] w (fun e w' => e = .returned v ∧ R w'))
    (hk : ∀ w', R w' → wpList P ops Q rest (a.put o.dst v) w') : wpList P ops Q (o :: rest) a w :=
  wpList_meth hw s name #[] ts ho T rv hs v R (by simpa using h) hk
theorem wpList_meth1 (hw : Region.wanted o (yielded ops a.tmps) = true) (s : Operand) (name : String) (x : Operand) (ts : Array TypeId)
    (ho : o.op = .call { callee := .invoke s name, args := #[x], argTypes := ts })
    (T : TypeId) (rv : Value) (hs : a.eval s = .iface T rv) (vx : Value) (hx : a.eval x = vx) (v : Value) (R : World → Prop)
    (h : Meth P T rv name #[vx] w (fun e w' => e = .returned v ∧ R w'))
    (hk : ∀ w', R w' → wpList P ops Q rest (a.put o.dst v) w') : wpList P ops Q (o :: rest) a w :=
  wpList_meth hw s name #[x] ts ho T rv hs v R (by simpa [hx] using h) hk
theorem wpList_meth2 (hw : Region.wanted o (yielded ops a.tmps) = true) (s : Operand) (name : String) (x y : Operand) (ts : Array TypeId)
    (ho : o.op = .call { callee := .invoke s name, args := #[x, y], argTypes := ts })
    (T : TypeId) (rv : Value) (hs : a.eval s = .iface T rv) (vx vy : Value) (hx : a.eval x = vx) (hy : a.eval y = vy) (v : Value) (R : World → Prop)
    (h : Meth P T rv name #[vx, vy] w (fun e w' => e = .returned v ∧ R w'))
    (hk : ∀ w', R w' → wpList P ops Q rest (a.put o.dst v) w') : wpList P ops Q (o :: rest) a w :=
  wpList_meth hw s name #[x, y] ts ho T rv hs v R (by simpa [hx, hy] using h) hk
end
end Go.Proofs.Ytpglibneflefgaa
