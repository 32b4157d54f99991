/- The mirrored heap in memory: it answers as the list machine does. -/
import Derived.Test.YtjnlolidjbbddaaMirPop
namespace Go.Proofs.Ytjnlolidjbbddaa
set_option linter.unusedVariables false
open Go.RowKit
abbrev TM : TypeId := 28

/-- In world w, in which the blocks of K are as they were in w0, block a (not in K) holds the header of a slice in which the elements xs lie from the end. -/
structure MirAt (K : Nat → Prop) (w0 : World) (a : Nat) (xs : List Int) (w : World) : Prop where
  kept : Kept K w0 w
  klt : ∀ k, K k → k < w0.heap.size
  na : ¬ K a
  hdr : ∃ A c, Blk w a TM #[.slice A xs.length c] ∧ xs.length ≤ c ∧ c ≤ 9223372036854775807 ∧
    (0 < xs.length → ∃ g off arr, A = some ⟨g, off, none⟩ ∧ Blk w g 3 arr ∧ ¬ K g ∧ ∀ i (h : i < xs.length), arr[off + (xs.length - 1 - i)]? = some (.int .i64 xs[i]))

theorem blk_ne {w : World} {a g : Nat} {t u : TypeId} {cs ds : Array Value} (h : Blk w a t cs) (h' : Blk w g u ds) (hne : t ≠ u) : a ≠ g := by
  rintro rfl
  unfold Blk at h h'
  rw [h] at h'
  injection h' with h'
  injection h' with _ ht
  exact hne ht

section
variable {K : Nat → Prop} {w0 : World} {a : Nat} {xs : List Int} {w : World}
theorem MirAt.drewN (h : MirAt K w0 a xs w) (n : Nat) : MirAt K w0 a xs (w.drewN n) := ⟨h.kept.drewN n, h.klt, h.na, h.hdr⟩
theorem MirAt.rebase (h : MirAt K w0 a xs w) {w1 : World} {K' : Nat → Prop} {row : Option Nat} (hg : w.grownBy w1 row) (hrow : ∀ k, row = some k → K k) (hK : ∀ k, K' k → k < w1.heap.size ∧ (K k ∨ w.heap.size ≤ k)) :
    MirAt K' w1 a xs w1 := by
  obtain ⟨h1, h2, h3, A, c, h4, h5, h6, h7⟩ := h
  refine ⟨Kept.refl _ _, fun k hk => (hK k hk).1, fun hk => ?_, A, c, h4.grown hg (fun e => h3 (hrow a e.symm)), h5, h6, fun hx => ?_⟩
  · rcases (hK a hk).2 with h | h
    · exact h3 h
    · have := h4.lt; omega
  · obtain ⟨g, off, arr, e, hb, hk, hc⟩ := h7 hx
    refine ⟨g, off, arr, e, hb.grown hg (fun e => hk (hrow g e.symm)), fun hk' => ?_, hc⟩
    rcases (hK g hk').2 with h | h
    · exact hk h
    · have := hb.lt; omega
theorem mir_beside {B : Nat} {w1 w2 w3 : World} {v v' : Value}
    (h : MirAt (fun b => b < B ∨ v.ownBlock = some b) w a xs w1) (hg : w1.grownBy w2 none) (hg2 : w2.grownBy w3 v.ownBlock)
    (hat : v'.ownBlock = v.ownBlock ∨ v'.ownBlock = some w2.heap.size) (hlt : ∀ k, v'.ownBlock = some k → k < w3.heap.size) (hB : B ≤ w3.heap.size) :
    MirAt (fun b => b < B ∨ v'.ownBlock = some b) w3 a xs w3 := by
  have h2 : MirAt (fun b => b < B ∨ v.ownBlock = some b) w2 a xs w2 :=
    h.rebase hg (fun k hk => by cases hk) (fun k hk => ⟨Nat.lt_of_lt_of_le (Nat.lt_of_lt_of_le (h.klt k hk) h.kept.size) hg.size, .inl hk⟩)
  refine h2.rebase hg2 (fun k hk => .inr hk) fun k hk => ?_
  rcases hk with hk | hk
  · exact ⟨by omega, .inl (.inl hk)⟩
  · refine ⟨hlt k hk, ?_⟩
    rcases hat with e | e
    · exact .inl (.inr (e ▸ hk))
    · rw [e] at hk; injection hk with hk; exact .inr (by omega)
theorem mir_start_beside {B : Nat} {w1 : World} (h : MirAt (· < B) w a xs w1) (hB : B ≤ w1.heap.size) : MirAt (fun b => b < B ∨ (Value.slice none 0 0).ownBlock = some b) w1 a xs w1 := by
  refine h.rebase (World.grownBy.refl _ none) (fun k hk => by cases hk) (fun k hk => ?_)
  rcases hk with hk | hk
  · exact ⟨by omega, .inl hk⟩
  · simp [Value.ownBlock] at hk
/-- A row of the call's own that holds the list from behind is a mirrored heap. -/
theorem mir_of_ints {ys : List Int} (h : IntsAt TM [] K w0 a ys w) : MirAt K w0 a ys.reverse w := by
  obtain ⟨h1, h2, h3, A, c, h4, h5, h6⟩ := h
  have hl : ys.reverse.length = ys.length := List.length_reverse
  refine ⟨h1, h2, h3, A, c, by rw [hl]; exact h4, ?_⟩
  rcases h5.2 with ⟨e, hn⟩ | ⟨g, cap, cur, e, _, hg, hnc, hcm, hcs, htake⟩
  · simp only [Value.slice.injEq] at e
    refine ⟨by omega, by omega, fun hx => by omega⟩
  · simp only [Value.slice.injEq] at e
    obtain ⟨rfl, _, rfl⟩ := e
    unfold maxLen at hcm
    refine ⟨by omega, hcm, fun hx => ⟨g, 0, cur, rfl, hg, h6 g rfl, fun i hi => ?_⟩⟩
    have hi' : i < ys.length := by omega
    rw [Nat.mul_one] at htake
    rw [Nat.zero_add, hl, ← Array.getElem?_toList, ← List.getElem?_take_of_lt (show ys.length - 1 - i < ys.length by omega), htake, ints_at (by omega)]
    simp [List.getElem_reverse]
end

section
theorem mir_find_Len (a : Addr) (w : World) : (method (Try.prog.types.size + Made.depth) 30 (.pointer (some a)) "Len").run Try.prog w = (do let v ← load a; pure (35, v) : Sem (FuncId × Value)).run Try.prog w := by kernel_rfl
theorem mir_find_Less (a : Addr) (w : World) : (method (Try.prog.types.size + Made.depth) 30 (.pointer (some a)) "Less").run Try.prog w = (do let v ← load a; pure (36, v) : Sem (FuncId × Value)).run Try.prog w := by kernel_rfl
theorem mir_find_Swap (a : Addr) (w : World) : (method (Try.prog.types.size + Made.depth) 30 (.pointer (some a)) "Swap").run Try.prog w = (do let v ← load a; pure (37, v) : Sem (FuncId × Value)).run Try.prog w := by kernel_rfl
theorem mir_find_Pop (a : Addr) (w : World) : (method (Try.prog.types.size + Made.depth) 30 (.pointer (some a)) "Pop").run Try.prog w = .ok (39, .pointer (some a)) w := by kernel_rfl
end
theorem mir_impl (K : Nat → Prop) (w0 : World) (a C : Nat) (N : Nat) (hN : N < 4611686018427387904) :
    Impl Try.prog 30 (.pointer (some ⟨a, 0, none⟩)) (listM ilt) (fun xs w => MirAt K w0 a xs w ∧ xs.length ≤ N) (C + 1) := by
  refine ⟨listM_fair _, ?_, ?_, ?_⟩
  · rintro xs w ⟨h, hl⟩
    obtain ⟨A, c, hb, _⟩ := h.hdr
    refine ⟨_, _, (mir_find_Len _ w).trans (ints_load _ (hb.cell 0)), fun _ _ => by kernel_rfl, ?_⟩
    refine (mir_Len A xs.length c w).mono ?_
    rintro e w' ⟨rfl, rfl⟩
    exact ⟨rfl, h, hl⟩
  · rintro xs w i j ⟨h, hl⟩ hi hj _
    have hi' : i < xs.length := hi
    have hj' : j < xs.length := hj
    obtain ⟨A, c, hb, h5, h6, h7⟩ := h.hdr
    obtain ⟨g, off, arr, rfl, hg, hK, hc⟩ := h7 (by omega)
    refine ⟨_, _, (mir_find_Less _ w).trans (ints_load _ (hb.cell 0)), fun _ _ => by kernel_rfl, ?_⟩
    refine (mir_Less g off xs.length c i j (xs.length - 1 - i) (xs.length - 1 - j) w xs[i] xs[j] (by omega) (by omega) (by omega) ?_ ?_).mono ?_
    · rw [hg.cell]; exact hc i hi'
    · rw [hg.cell]; exact hc j hj'
    rintro e w' ⟨rfl, q, rfl⟩
    exact ⟨by rw [listM_less _ hi' hj'], h.drewN q, hl⟩
  · rintro xs w i j ⟨h, hl⟩ hi hj _
    have hi' : i < xs.length := hi
    have hj' : j < xs.length := hj
    obtain ⟨A, c, hb, h5, h6, h7⟩ := h.hdr
    obtain ⟨g, off, arr, rfl, hg, hK, hc⟩ := h7 (by omega)
    have hag : a ≠ g := blk_ne hb hg (by decide)
    refine ⟨_, _, (mir_find_Swap _ w).trans (ints_load _ (hb.cell 0)), fun _ _ => by kernel_rfl, ?_⟩
    refine (mir_Swap g off xs.length c i j (xs.length - 1 - i) (xs.length - 1 - j) w xs[i] xs[j] (by omega) (by omega) (by omega) ?_ ?_ ?_).mono ?_
    · rw [hg.cell]; exact hc i hi'
    · rw [hg.cell]; exact hc j hj'
    · exact fun o => hg.frozen o
    rintro e w' ⟨rfl, q, rfl⟩
    have hln : ((listM ilt).swap xs i j).length = xs.length := length_swp _ _ _
    refine ⟨rfl, MirAt.drewN ⟨?_, h.klt, h.na, some ⟨g, off, none⟩, c, ?_, by omega, h6, fun _ => ⟨g, off, _, rfl, (hg.set_ _ _).set_ _ _, hK, ?_⟩⟩ q, by omega⟩
    · exact (h.kept.setCell hK _).setCell hK _
    · rw [hln]
      exact (hb.far (p := ⟨g, _, none⟩) hag _).far (p := ⟨g, _, none⟩) hag _
    · intro m hm
      have hmx : m < xs.length := by omega
      rw [hln]
      have hs := get_swp hi' hj' m
      have hm' : m < (swp xs i j).length := by rw [length_swp]; exact hmx
      have hs2 : some ((listM ilt).swap xs i j)[m] = (swp xs i j)[m]? := (List.getElem?_eq_getElem hm').symm
      have hgoal : (some (Value.int .i64 ((listM ilt).swap xs i j)[m]) : Option Value) = ((swp xs i j)[m]?).map (Value.int .i64) := by rw [← hs2]; rfl
      have hsz : ∀ k, k < xs.length → off + (xs.length - 1 - k) < arr.size := fun k hk => (Array.getElem?_eq_some_iff.1 (hc k hk)).1
      refine Eq.trans ?_ hgoal.symm
      rw [hs, Array.getElem?_setIfInBounds, Array.getElem?_setIfInBounds, Array.size_setIfInBounds]
      by_cases e1 : m = j
      · subst e1
        rw [if_pos rfl, if_pos (hsz m hmx), if_pos rfl, List.getElem?_eq_getElem hi']
        rfl
      · rw [if_neg (by omega), if_neg e1]
        by_cases e2 : m = i
        · subst e2
          rw [if_pos rfl, if_pos (hsz m hmx), if_pos rfl, List.getElem?_eq_getElem hj']
          rfl
        · rw [if_neg (by omega), if_neg e2, hc m hmx, List.getElem?_eq_getElem hmx]
          rfl
theorem mir_heapPop (K : Nat → Prop) (w0 : World) (a : Nat) (l : List Int) (w : World) (h : MirAt K w0 a l w) (h0 : 0 < l.length) (hn : l.length < 4611686018427387904) :
    Calls Try.prog 15 #[.iface 30 (.pointer (some ⟨a, 0, none⟩))] w fun e w' => e = .returned (.iface 3 ((Value.int .i64) (popTop ilt 0 l))) ∧ MirAt K w0 a (popRest ilt l) w' := by
  refine pop_any (mir_impl K w0 a (3 * l.length) l.length hn) l w (l.length - 1) _ _ ⟨h, Nat.le_refl _⟩ (by show l.length = _; omega) (by omega) (by show 0 + _ + 1 ≤ _; omega) ?_
  rintro w1 ⟨h1, _⟩
  have hal : (popAll ilt l).length = l.length := popAll_length ilt l
  have h1' : MirAt K w0 a (popAll ilt l) w1 := h1
  show Meth _ _ _ _ _ _ fun e w' => e = .returned (.iface _ (.int .i64 (at_ 0 (popAll ilt l) (l.length - 1)))) ∧ MirAt K w0 a ((popAll ilt l).take (l.length - 1)) w'
  clear h1
  generalize popAll ilt l = xs at *
  obtain ⟨n, hn1⟩ : ∃ n, l.length = n + 1 := ⟨l.length - 1, by omega⟩
  obtain ⟨A, c, hb, h5, h6, h7⟩ := h1'.hdr
  obtain ⟨g, off, arr, rfl, hg, hK, hc⟩ := h7 (by omega)
  have hnx : n < xs.length := by omega
  have hc0 := hc n hnx
  rw [show xs.length - 1 - n = 0 by omega, Nat.add_zero] at hc0
  have hxn : xs.length = n + 1 := by omega
  have hb' := hb
  rw [hxn] at hb'
  refine ⟨_, _, mir_find_Pop _ _, fun _ _ => by kernel_rfl, ?_⟩
  refine (mir_Pop_walk a g off n c w1 xs[n] (by omega) (by omega) h6 hb.lt hg.lt (hb'.cell 0) (hb.frozen 0) (by rw [hg.cell]; exact hc0)).mono ?_
  rintro e w' ⟨A', rfl, hA', rfl⟩
  rw [show l.length - 1 = n by omega]
  have hlt : (xs.take n).length = n := by rw [List.length_take]; omega
  refine ⟨by rw [at_get 0 hnx], h1'.kept.setCell h1'.na _, h1'.klt, h1'.na, A', c - 1, ?_, by omega, by omega, fun hx => ?_⟩
  · rw [hlt]; exact hb'.set_ 0 _
  · have hag : a ≠ g := blk_ne hb hg (by decide)
    refine ⟨g, off + 1, arr, hA' (by omega), hg.far (p := ⟨a, 0, none⟩) (fun e => hag e.symm) _, hK, fun i hi => ?_⟩
    have hi' : i < n := by omega
    have := hc i (by omega)
    rw [hlt, show off + 1 + (n - 1 - i) = off + (xs.length - 1 - i) by omega, this, List.getElem_take]
end Go.Proofs.Ytjnlolidjbbddaa
