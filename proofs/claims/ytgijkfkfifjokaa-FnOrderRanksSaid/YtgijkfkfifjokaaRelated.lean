/- The heap of numbers that an Order orders. -/
import Derived.Test.YtgijkfkfifjokaaInts
import Derived.Test.YtgijkfkfifjokaaBefore
import Derived.Deep.RegionHeld3
namespace Go.Proofs.Ytgijkfkfifjokaa
set_option linter.unusedVariables false
open Go.RowKit

section
theorem related_find_Len (a : Nat) (w : World) : (method (Try.prog.types.size + Made.depth) 46 (.pointer (some ⟨a, 0, none⟩)) "Len").run Try.prog w = (do let v ← load ⟨a, 0, none⟩; pure (51, v) : Sem (FuncId × Value)).run Try.prog w := by kernel_rfl
theorem related_find_Swap (a : Nat) (w : World) : (method (Try.prog.types.size + Made.depth) 46 (.pointer (some ⟨a, 0, none⟩)) "Swap").run Try.prog w = (do let v ← load ⟨a, 0, none⟩; pure (53, v) : Sem (FuncId × Value)).run Try.prog w := by kernel_rfl
theorem related_find_Pop (a : Nat) (w : World) : (method (Try.prog.types.size + Made.depth) 46 (.pointer (some ⟨a, 0, none⟩)) "Pop").run Try.prog w = .ok (56, .pointer (some ⟨a, 0, none⟩)) w := by kernel_rfl
theorem related_find_Less (a : Nat) (w : World) : (method (Try.prog.types.size + Made.depth) 46 (.pointer (some ⟨a, 0, none⟩)) "Less").run Try.prog w = (do let v ← load ⟨a, 0, none⟩; let v1 ← load ⟨a, 1, none⟩; let v2 ← load ⟨a, 2, none⟩; pure (54, .agg #[v, v1, v2]) : Sem (FuncId × Value)).run Try.prog w := by kernel_rfl
end
theorem agg3_load {P : Program} {w : World} {a0 a1 a2 : Addr} {v v1 v2 : Value} (f : FuncId) (h : w.cell? a0 = some v) (h1 : w.cell? a1 = some v1) (h2 : w.cell? a2 = some v2) :
    (do let v ← load a0; let v1 ← load a1; let v2 ← load a2; pure (f, .agg #[v, v1, v2]) : Sem (FuncId × Value)).run P w = .ok (f, .agg #[v, v1, v2]) w := by
  simp [go_sem, h, h1, h2]
theorem HeapAt.below {α : Type} {TH E : TypeId} {sz : Nat} {fl : List α → List Value} {ex : List Value} {K : Nat → Prop} {w0 : World} {a : Nat} {xs : List α} {w w' : World} (h : HeapAt TH E sz fl ex K w0 a xs w) (hb : Below w.heap.size w w') : HeapAt TH E sz fl ex K w0 a xs w' := by
  obtain ⟨h1, h2, h3, A, c, h4, h5, h6⟩ := h
  exact ⟨h1.trans (Kept.of_below hb fun k hk => Nat.lt_of_lt_of_le (h2 k hk) h1.size), h2, h3, A, c, h4.below hb h4.lt, own_kept h5 (Kept.of_below (K := (· < w.heap.size)) hb fun _ h => h) fun k hk => (h5.lt k hk).2, h6⟩

set_option maxHeartbeats 800000 in
theorem related_Less (g n c i j : Nat) (w : World) (x y : Int) (sz : Int) (Ab : Option Addr) (cb : Nat) (bs : List Bool) (B : Nat) (hi : i < n) (hj : j < n) (hn : n < 4611686018427387904) (hg : g < w.heap.size)
    (ci : w.cell? ⟨g, i, none⟩ = some (.int .i64 x)) (cj : w.cell? ⟨g, j, none⟩ = some (.int .i64 y))
    (hs : Sees w B 1 Ab bs.length (bs.map Value.bool)) (hB : B ≤ w.heap.size) (hnb : bs.length ≤ 140737488355328) (hwz : -9223372036854775808 ≤ sz ∧ sz ≤ 9223372036854775807) (hwa : -9223372036854775808 ≤ x ∧ x ≤ 9223372036854775807) (hwb : -9223372036854775808 ≤ y ∧ y ≤ 9223372036854775807) :
    Calls Try.prog 54 #[.agg #[.slice (some ⟨g, 0, none⟩) n c, .int .i64 sz, .slice Ab bs.length cb], .int .i64 i, .int .i64 j] w fun e w' => e = .returned (.bool (bef sz bs x y)) ∧ Below w.heap.size w w' := by
  have HS := Lib.hid hs
  clear hs
  go_enter Try.func54, Try.ntmps54
  go_wp2_with fail
  obtain ⟨W, hW⟩ : ∃ W : World, W = (w.alloc (.cells #[.slice (some ⟨g, 0, none⟩) n c, .int .i64 sz, .slice Ab bs.length cb] 44)) := ⟨_, rfl⟩
  rw [← hW]
  have hb : Below w.heap.size w W := by rw [hW]; exact (Below.refl _ _).alloc (Nat.le_refl _) _
  have hk : Blk W w.heap.size 44 #[.slice (some ⟨g, 0, none⟩) n c, .int .i64 sz, .slice Ab bs.length cb] := by rw [hW]; exact Blk.new _ _ _
  have e0 : W.cell? ⟨w.heap.size, 0, none⟩ = some (.slice (some ⟨g, 0, none⟩) n c) := hk.cell 0
  have e1 : W.cell? ⟨w.heap.size, 1, none⟩ = some (.int .i64 sz) := hk.cell 1
  have e2 : W.cell? ⟨w.heap.size, 2, none⟩ = some (.slice Ab bs.length cb) := hk.cell 2
  have hlW : w.heap.size < W.heap.size := hk.lt
  have ci' : W.cell? ⟨g, i, none⟩ = some (.int .i64 x) := (hb.cell (p := ⟨g, i, none⟩) hg).trans ci
  have cj' : W.cell? ⟨g, j, none⟩ = some (.int .i64 y) := (hb.cell (p := ⟨g, j, none⟩) hg).trans cj
  have hgW : g < W.heap.size := by omega
  have SB := Lib.hid (show Sees W.drew B 1 Ab bs.length (bs.map Value.bool) from (HS.out.below (hb.mono hB)).drew)
  have HBW := Lib.hid hb
  have hcar : ∀ (p : Addr) (u : Value) (q : Nat), p.block < W.heap.size → W.cell? p = some u → ((W.drew.alloc (.cells #[.int .i64 sz, .slice Ab bs.length cb] 28)).drewN q).cell? p = some u := fun p u q hp hc => (((below_drewN (((Below.refl W.heap.size W).drew).alloc (Nat.le_refl _) _) q).cell hp)).trans hc
  have HQ0 := Lib.hid fun q => hcar _ _ q hlW e0
  have HQ1 := Lib.hid fun q => hcar _ _ q hlW e1
  have HQ2 := Lib.hid fun q => hcar _ _ q hlW e2
  have HQ3 := Lib.hid fun q => hcar _ _ q hgW ci'
  have HQ4 := Lib.hid fun q => hcar _ _ q hgW cj'
  have hBW : B ≤ W.drew.heap.size := Nat.le_trans hB hb.size
  clear hk hW hb ci cj hcar
  go_region_held3 (fun w' => w'.cell? ⟨w.heap.size, 0, none⟩ = some (.slice (some ⟨g, 0, none⟩) n c) ∧ w'.cell? ⟨w.heap.size, 1, none⟩ = some (.int .i64 sz) ∧ w'.cell? ⟨w.heap.size, 2, none⟩ = some (.slice Ab bs.length cb) ∧ w'.cell? ⟨g, i, none⟩ = some (.int .i64 x) ∧ w'.cell? ⟨g, j, none⟩ = some (.int .i64 y)) (first | go_keep | (exact ⟨by assumption, by assumption, by assumption, by assumption, by assumption⟩))
    (first | (go_at_call 55; (with_reducible refine (before_any sz Ab cb bs x y W.drew B SB.out hBW hnb hwz hwa hwb).mono ?_); rintro e w1 ⟨rfl, q, rfl⟩; have q0 := HQ0.out q; have q1 := HQ1.out q; have q2 := HQ2.out q; have q3 := HQ3.out q; have q4 := HQ4.out q))
  all_goals go_wp2
  all_goals go_ret
  all_goals exact ⟨rfl, below_drewN (HBW.out.alloc HBW.out.size _) _⟩

def RelAt (sz : Int) (Ab : Option Addr) (cb : Nat) (bs : List Bool) := IntsAt 44 [.int .i64 sz, .slice Ab bs.length cb]
def Fits (l : List Int) : Prop := ∀ x ∈ l, -9223372036854775808 ≤ x ∧ x ≤ 9223372036854775807
theorem related_impl (sz : Int) (Ab : Option Addr) (cb : Nat) (bs : List Bool) (B : Nat) (K : Nat → Prop) (w0 : World) (a C : Nat) (N : Nat) (hN : N < 4611686018427387904) (hs : Sees w0 B 1 Ab bs.length (bs.map Value.bool)) (hB : B ≤ w0.heap.size) (hK : ∀ b, b < B → K b) (hnb : bs.length ≤ 140737488355328) (hwz : -9223372036854775808 ≤ sz ∧ sz ≤ 9223372036854775807) :
    Impl Try.prog 46 (.pointer (some ⟨a, 0, none⟩)) (listM (bef sz bs)) (fun xs w => IntsAt 44 [.int .i64 sz, .slice Ab bs.length cb] K w0 a xs w ∧ xs.length ≤ N ∧ Fits xs) (C + 1) := by
  refine ⟨listM_fair _, ?_, ?_, ?_⟩
  · rintro xs w ⟨h, hl, hf⟩
    refine (ints_len_at h hl (fun v hv => (related_find_Len _ w).trans (ints_load _ hv)) (bef sz bs)).mono ?_
    rintro e w' ⟨rfl, h1, h2⟩
    exact ⟨rfl, h1, h2, hf⟩
  · rintro xs w i j ⟨h, hl, hf⟩ hi hj _
    obtain ⟨A, c, hb, ho, hKg⟩ := h.hdr
    have hi' : i < xs.length := hi
    have hj' : j < xs.length := hj
    obtain ⟨g, cap, hv, _, hlt⟩ := ho.form (by omega)
    obtain ⟨rfl, rfl⟩ : A = some ⟨g, 0, none⟩ ∧ c = cap := by simpa using hv
    refine ⟨_, _, (related_find_Less _ w).trans (agg3_load _ (hb.cell 0) (hb.cell 1) (hb.cell 2)), fun _ _ => by kernel_rfl, ?_⟩
    refine (related_Less g xs.length c i j w xs[i] xs[j] sz Ab cb bs B hi' hj' (by omega) hlt ?_ ?_ (hs.below (h.kept.below hK)) (Nat.le_trans hB h.kept.size) hnb hwz (hf _ (List.getElem_mem hi')) (hf _ (List.getElem_mem hj'))).mono ?_
    · rw [ho.cellAt _ (by omega)]; exact ints_at hi'
    · rw [ho.cellAt _ (by omega)]; exact ints_at hj'
    rintro e w' ⟨rfl, hbel⟩
    exact ⟨by rw [listM_less _ hi' hj'], h.below hbel, hl, hf⟩
  · rintro xs w i j ⟨h, hl, hf⟩ hi hj _
    refine (ints_swap_at h (by decide) hl hN (fun v hv => (related_find_Swap _ w).trans (ints_load _ hv)) (bef sz bs) hi hj).mono ?_
    rintro e w' ⟨rfl, h1, h2⟩
    refine ⟨rfl, h1, h2, fun x hx => hf x ?_⟩
    exact (perm_swp xs i j).mem_iff.1 hx
end Go.Proofs.Ytgijkfkfifjokaa
