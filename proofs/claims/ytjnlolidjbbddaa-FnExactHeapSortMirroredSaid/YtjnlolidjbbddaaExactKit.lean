/- What the exact laws carry from call to call. -/
import Derived.Test.YtjnlolidjbbddaaExact
namespace Go.Proofs.Ytjnlolidjbbddaa
set_option linter.unusedVariables false
open Go.RowKit
theorem own_apart {w : World} {v v2 : Value} {b2 : Nat} {e2 : TypeId} {s2 n2 : Nat} {xs2 : List Value} (h2 : w.ownsRow b2 e2 s2 v2 n2 xs2) (hlt : ∀ g, v.ownBlock = some g → g < b2) : v.ownBlock = none ∨ v.ownBlock ≠ v2.ownBlock := by
  cases hv : v.ownBlock with
  | none => exact .inl rfl
  | some g =>
    refine .inr fun e => ?_
    have := hlt g hv
    have := (h2.lt g e.symm).1
    omega
theorem own_apart' {w : World} {v v2 : Value} {b : Nat} {e1 : TypeId} {s1 n1 : Nat} {xs1 : List Value} (h : w.ownsRow b e1 s1 v n1 xs1) (hlt : ∀ g, v2.ownBlock = some g → g < b) : v.ownBlock = none ∨ v.ownBlock ≠ v2.ownBlock := by
  cases hv : v.ownBlock with
  | none => exact .inl rfl
  | some g =>
    refine .inr fun e => ?_
    have := hlt g e.symm
    have := (h.lt g hv).1
    omega
theorem held_any (A : Option Addr) (c n : Nat) (k0 : Int) (w : World) (B : Nat) (hs : Sees w B 1 A n ((marks k0 n).map (Value.int .i64))) (hn : n ≤ 1048576) (h0 : 0 ≤ k0) (h1 : k0 ≤ 1048576) :
    Calls Try.prog 10 #[.slice A n c, .int .i64 k0] w fun e w' => e = .returned (.int .i64 (k0 + (n : Int))) ∧ ∃ q, w' = w.drewN q := by
  have h := heldIntS_any A c (marks k0 n) k0 w B (by rw [marks_length]; exact hs) (by rw [marks_length]) (by rw [marks_length]; exact hn) h0 h1
  rw [marks_length] at h
  exact h
end Go.Proofs.Ytjnlolidjbbddaa
