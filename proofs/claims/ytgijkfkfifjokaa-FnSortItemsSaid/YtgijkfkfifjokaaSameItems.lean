/- sameElements: two lists of items have the same elements. -/
import Derived.Test.YtgijkfkfifjokaaLawFns
import Derived.Deep.RegionWith
namespace Go.Proofs.Ytgijkfkfifjokaa
set_option linter.unusedVariables false
open Go.RowKit

def sameB (a b : List (Int × Int)) : Bool := a.length == b.length && a.all fun x => cntI a x == cntI b x
theorem sameB_perm {a b : List (Int × Int)} (h : a.Perm b) : sameB a b = true := by
  unfold sameB cntI
  rw [Bool.and_eq_true, List.all_eq_true]
  exact ⟨by simp [h.length_eq], fun x _ => by simp [h.count_eq x]⟩
theorem sameB_ne {a b : List (Int × Int)} (h : ¬ a.length = b.length) : sameB a b = false := by simp [sameB, h]
theorem sameB_part {a b : List (Int × Int)} (k : Nat) (hk : k < a.length) (h : ¬ cntI a a[k] = cntI b a[k]) : sameB a b = false := by
  unfold sameB
  rw [Bool.and_eq_false_iff]
  refine Or.inr ?_
  rw [List.all_eq_false]
  exact ⟨a[k], List.getElem_mem hk, by simp [h]⟩
theorem sameB_all {a b : List (Int × Int)} (hl : a.length = b.length) (h : ∀ j (hj : j < a.length), cntI a a[j] = cntI b a[j]) : sameB a b = true := by
  unfold sameB
  rw [Bool.and_eq_true, List.all_eq_true]
  refine ⟨by simp [hl], fun x hx => ?_⟩
  obtain ⟨j, hj, rfl⟩ := List.getElem_of_mem hx
  simp [h j hj]
set_option maxHeartbeats 800000 in
theorem sameElements_any (A1 A2 : Option Addr) (c1 c2 : Nat) (la lb : List (Int × Int)) (w : World) (hsa : Sees w w.heap.size 2 A1 la.length (ics la)) (hsb : Sees w w.heap.size 2 A2 lb.length (ics lb))
    (hna : la.length < 4611686018427387904) (hnb : lb.length < 4611686018427387904) :
    Calls Try.prog 22 #[.slice A1 la.length c1, .slice A2 lb.length c2] w fun e w' => e = .returned (.bool (sameB la lb)) ∧ Below w.heap.size w w' := by
  have HSA := Lib.hid hsa
  have HSB := Lib.hid hsb
  clear hsa hsb
  by_cases hl : la.length = lb.length
  · have hlz : ((la.length : Int) != (lb.length : Int)) = false := by simp [hl]
    have HL := Lib.hid hl
    clear hl
    go_enter Try.func22, Try.ntmps22
    go_wp2
    go_loopg [14] la.length (fun m i wr => ∃ (k : Nat), i = .int .i64 k ∧ k + m = la.length ∧ Hid (∀ j (h : j < la.length), j < k → cntI la la[j] = cntI lb la[j]) ∧ Hid (Below w.heap.size w wr))
    case atStart => exact ⟨0, rfl, by omega, fun j _ h => by omega, Below.refl _ _⟩
    case round =>
      obtain ⟨k, rfl, hk, HO, HB⟩ := hrel
      by_cases hlt : k < la.length
      · have SA := Lib.hid ((HSA.out.below HB.out).more HB.out.size)
        have SB := Lib.hid ((HSB.out.below HB.out).more HB.out.size)
        obtain ⟨b, off, rfl, hbw, hc⟩ := HSA.out.cellAt (by omega) HB.out
        have c0 := hc (k * 2) _ (ics_key la k hlt)
        have c1' := hc (k * 2 + 1) _ (ics_tag la k hlt)
        clear hc
        rw [← Nat.add_assoc] at c1'
        have hbw' : b < wr.heap.size := Nat.lt_of_lt_of_le hbw HB.out.size
        have hk' := Lib.hid hk
        clear hk
        obtain ⟨x0, x1, hx⟩ : ∃ x0 x1, la[k] = (x0, x1) := ⟨_, _, rfl⟩
        rw [hx] at c0 c1'
        have HX := Lib.hid hx
        clear hx
        dsimp only at c0 c1'
        go_wp2_with fail
        generalize hW : wr.alloc (.cells #[.int .i64 x0, .int .i64 x1] 50) = W0
        have hlW : wr.heap.size < W0.heap.size := by rw [← hW]; simp
        have e0 : W0.cell? ⟨wr.heap.size, 0, none⟩ = some (.int .i64 x0) := by rw [← hW]; exact (Blk.new wr _ _).cell 0
        have e1 : W0.cell? ⟨wr.heap.size, 1, none⟩ = some (.int .i64 x1) := by rw [← hW]; exact (Blk.new wr _ _).cell 1
        have SA0 := Lib.hid (show Sees W0.drew W0.drew.heap.size 2 (some ⟨b, off, none⟩) la.length (ics la) by refine Sees.drew (Sees.more ?_ (Nat.le_of_lt hlW)); rw [← hW]; exact SA.out.alloc (Nat.le_refl _) _)
        have SB0 := Lib.hid (show Sees W0.drew W0.drew.heap.size 2 A2 lb.length (ics lb) by refine Sees.drew (Sees.more ?_ (Nat.le_of_lt hlW)); rw [← hW]; exact SB.out.alloc (Nat.le_refl _) _)
        have HBW := Lib.hid (show Below w.heap.size w W0.drew by rw [← hW]; exact (HB.out.alloc HB.out.size _).drew)
        clear hW SA SB
        by_cases hq : cntI la (x0, x1) = cntI lb (x0, x1)
        · have hqz : ((cntI la (x0, x1) : Int) != (cntI lb (x0, x1) : Int)) = false := by simp [hq]
          have HO' := Lib.hid (show ∀ j (h : j < la.length), j < k + 1 → cntI la la[j] = cntI lb la[j] from fun j h h2 => by
            by_cases e : j = k
            · subst e; rw [HX.out]; exact hq
            · exact HO.out j h (by omega))
          clear HO hq
          go_region_with (first
            | (go_at_call 32; (with_reducible refine (countItem_any (some ⟨b, off, none⟩) c1 la x0 x1 w1 SA1.out hna).mono ?_); rintro e w2 ⟨rfl, hb2⟩; have HB2 := Lib.hid (HB1.out.trans (hb2.mono HB1.out.size)); clear hb2)
            | (go_at_call 32; (with_reducible refine (countItem_any A2 c2 lb x0 x1 w1 SB1.out hnb).mono ?_); rintro e w2 ⟨rfl, hb2⟩; have HB2 := Lib.hid (HB1.out.trans (hb2.mono HB1.out.size)); clear hb2)
            | (go_at_call 32; (with_reducible refine (countItem_any (some ⟨b, off, none⟩) c1 la x0 x1 _ SA0.out hna).mono ?_); rintro e w1 ⟨rfl, hb1⟩; have f0 := (hb1.cell (p := ⟨wr.heap.size, 0, none⟩) hlW).trans e0; have f1 := (hb1.cell (p := ⟨wr.heap.size, 1, none⟩) hlW).trans e1; have SB1 := Lib.hid ((SB0.out.below hb1).more hb1.size); have HB1 := Lib.hid (HBW.out.trans (hb1.mono HBW.out.size)); clear hb1)
            | (go_at_call 32; (with_reducible refine (countItem_any A2 c2 lb x0 x1 _ SB0.out hnb).mono ?_); rintro e w1 ⟨rfl, hb1⟩; have f0 := (hb1.cell (p := ⟨wr.heap.size, 0, none⟩) hlW).trans e0; have f1 := (hb1.cell (p := ⟨wr.heap.size, 1, none⟩) hlW).trans e1; have SA1 := Lib.hid ((SA0.out.below hb1).more hb1.size); have HB1 := Lib.hid (HBW.out.trans (hb1.mono HBW.out.size)); clear hb1))
          all_goals go_wp2
          all_goals go_roundg (la.length - (k + 1))
          all_goals first | (have := hk'.out; omega) | exact ⟨k + 1, by go_num, by omega, HO', HB2⟩
        · have hqz : ((cntI la (x0, x1) : Int) != (cntI lb (x0, x1) : Int)) = true := by simp; omega
          have HF := Lib.hid (sameB_part k hlt (by rw [HX.out]; exact hq))
          clear hq
          go_region_with (first
            | (go_at_call 32; (with_reducible refine (countItem_any (some ⟨b, off, none⟩) c1 la x0 x1 w1 SA1.out hna).mono ?_); rintro e w2 ⟨rfl, hb2⟩; have HB2 := Lib.hid (HB1.out.trans (hb2.mono HB1.out.size)); clear hb2)
            | (go_at_call 32; (with_reducible refine (countItem_any A2 c2 lb x0 x1 w1 SB1.out hnb).mono ?_); rintro e w2 ⟨rfl, hb2⟩; have HB2 := Lib.hid (HB1.out.trans (hb2.mono HB1.out.size)); clear hb2)
            | (go_at_call 32; (with_reducible refine (countItem_any (some ⟨b, off, none⟩) c1 la x0 x1 _ SA0.out hna).mono ?_); rintro e w1 ⟨rfl, hb1⟩; have f0 := (hb1.cell (p := ⟨wr.heap.size, 0, none⟩) hlW).trans e0; have f1 := (hb1.cell (p := ⟨wr.heap.size, 1, none⟩) hlW).trans e1; have SB1 := Lib.hid ((SB0.out.below hb1).more hb1.size); have HB1 := Lib.hid (HBW.out.trans (hb1.mono HBW.out.size)); clear hb1)
            | (go_at_call 32; (with_reducible refine (countItem_any A2 c2 lb x0 x1 _ SB0.out hnb).mono ?_); rintro e w1 ⟨rfl, hb1⟩; have f0 := (hb1.cell (p := ⟨wr.heap.size, 0, none⟩) hlW).trans e0; have f1 := (hb1.cell (p := ⟨wr.heap.size, 1, none⟩) hlW).trans e1; have SA1 := Lib.hid ((SA0.out.below hb1).more hb1.size); have HB1 := Lib.hid (HBW.out.trans (hb1.mono HBW.out.size)); clear hb1))
          all_goals go_wp2
          all_goals go_ret
          all_goals exact ⟨by rw [HF.out]; rfl, HB2.out⟩
      · have HT := Lib.hid (sameB_all HL.out fun j hj => HO.out j hj (by omega))
        go_wp2
        go_ret
        rw [HT.out]
        exact ⟨rfl, HB.out⟩
  · have hlz : ((la.length : Int) != (lb.length : Int)) = true := by simp; omega
    have HL := Lib.hid (sameB_ne hl)
    clear hl
    go_enter Try.func22, Try.ntmps22
    go_wp2
    go_ret
    rw [HL.out]
    exact ⟨rfl, Below.refl _ _⟩
end Go.Proofs.Ytgijkfkfifjokaa
