/- isWeak: whether an order is a strict weak order among some numbers. -/
import Derived.Test.YtgijkfkfifjokaaOrders
import Derived.Test.YtgijkfkfifjokaaRelated
namespace Go.Proofs.Ytgijkfkfifjokaa
set_option linter.unusedVariables false
open Go.RowKit

section
variable (p : Int → Int → Bool)
def ok3 (a b c : Int) : Bool := !(p a b && p b c && !p a c) && !(!p a b && !p b c && p a c)
def okB (l : List Int) (a b : Int) : Bool := l.all (ok3 p a b)
def okA (l : List Int) (a : Int) : Bool := !p a a && l.all (okB p l a)
def weakIn (l : List Int) : Bool := l.all (okA p l)
variable {p} {l : List Int}
theorem weak_fail {k : Nat} (h : k < l.length) (hf : okA p l l[k] = false) : weakIn p l = false := by
  unfold weakIn
  rw [List.all_eq_false]
  exact ⟨l[k], List.getElem_mem h, by simp [hf]⟩
theorem weak_fail1 {k : Nat} {x : Int} (h : k < l.length) (hx : l[k] = x) (hf : p x x = true) : weakIn p l = false := weak_fail h (by rw [hx, okA, hf]; rfl)
theorem weak_fail3 {i j k : Nat} {x y z : Int} (hi : i < l.length) (hj : j < l.length) (hk : k < l.length) (hx : l[i] = x) (hy : l[j] = y) (hz : l[k] = z) (hf : ok3 p x y z = false) : weakIn p l = false := by
  refine weak_fail hi ?_
  rw [hx, okA, Bool.and_eq_false_iff]
  refine .inr (List.all_eq_false.2 ⟨l[j], List.getElem_mem hj, ?_⟩)
  rw [hy, Bool.not_eq_true, okB]
  exact List.all_eq_false.2 ⟨l[k], List.getElem_mem hk, by rw [hz]; simp [hf]⟩
theorem all_get {q : Int → Bool} (h : ∀ j (hj : j < l.length), q l[j] = true) : l.all q = true := by
  rw [List.all_eq_true]
  intro x hx
  obtain ⟨j, hj, rfl⟩ := List.getElem_of_mem hx
  exact h j hj
theorem weak_of (h : weakIn p l = true) : Weak p (· ∈ l) := by
  unfold weakIn at h
  rw [List.all_eq_true] at h
  have h1 : ∀ a ∈ l, p a a = false := fun a ha => by have := h a ha; simp [okA] at this; exact this.1
  have h3 : ∀ a ∈ l, ∀ b ∈ l, ∀ c ∈ l, ok3 p a b c = true := fun a ha b hb c hc => by
    have := h a ha
    rw [okA, Bool.and_eq_true, List.all_eq_true] at this
    have := this.2 b hb
    rw [okB, List.all_eq_true] at this
    exact this c hc
  refine ⟨fun a b ha hb hab => ?_, fun a b c ha hb hc hab hbc => ?_⟩
  · have h4 := h3 a ha b hb a ha
    have h5 := h1 a ha
    unfold ok3 at h4
    rw [hab, h5] at h4
    simpa using h4
  · have h4 := h3 c hc b hb a ha
    unfold ok3 at h4
    rw [hab, hbc] at h4
    simpa using h4
end

set_option maxHeartbeats 4000000 in
set_option maxRecDepth 100000 in
theorem isWeak_any (sz : Int) (Ab : Option Addr) (cb : Nat) (bs : List Bool) (A : Option Addr) (c : Nat) (l : List Int) (w : World) (hwz : -9223372036854775808 ≤ sz ∧ sz ≤ 9223372036854775807) (hsb : Sees w w.heap.size 1 Ab bs.length (bs.map Value.bool)) (hnb : bs.length ≤ 140737488355328) (hs : Sees w w.heap.size 1 A l.length (l.map (Value.int .i64))) (hf : Fits l) (hn : l.length * 8 ≤ 140737488355328) :
    Calls Try.prog 17 #[.agg #[.int .i64 sz, .slice Ab bs.length cb], .slice A l.length c] w fun e w' => e = .returned (.bool (weakIn (bef sz bs) l)) ∧ Below w.heap.size w w' := by
  have HS := Lib.hid hs
  have HSB := Lib.hid hsb
  have HF := Lib.hid hf
  clear hs hsb hf
  go_enter Try.func17, Try.ntmps17
  go_wp2_with fail
  obtain ⟨W, hW⟩ : ∃ W : World, W = (w.alloc (.cells #[.int .i64 sz, .slice Ab bs.length cb] 24)) := ⟨_, rfl⟩
  rw [← hW]
  have hb : Below w.heap.size w W := by rw [hW]; exact (Below.refl _ _).alloc (Nat.le_refl _) _
  have hk : Blk W w.heap.size 24 #[.int .i64 sz, .slice Ab bs.length cb] := by rw [hW]; exact Blk.new _ _ _
  have hlW : w.heap.size < W.heap.size := hk.lt
  have HK := Lib.hid hk
  have HB := Lib.hid hb
  have HW := Lib.hid (Below.refl W.heap.size W)
  have HP := Lib.hid (show ∀ (x y : Int) (wr : World), Below W.heap.size W wr → (-9223372036854775808 ≤ x ∧ x ≤ 9223372036854775807) → (-9223372036854775808 ≤ y ∧ y ≤ 9223372036854775807) → Calls Try.prog 18 #[.agg #[.int .i64 sz, .slice Ab bs.length cb], .int .i64 x, .int .i64 y] wr fun e w' => e = .returned (.bool (bef sz bs x y)) ∧ Below W.heap.size W w' ∧ w'.cell? ⟨w.heap.size, 0, none⟩ = some (.int .i64 sz) ∧ w'.cell? ⟨w.heap.size, 1, none⟩ = some (.slice Ab bs.length cb) from fun x y wr hwr hx hy => by
    refine (precedes_any sz Ab cb bs x y wr w.heap.size (HSB.out.below (hb.trans (hwr.mono hb.size))) (Nat.le_trans hb.size hwr.size) hnb hwz hx hy).mono ?_
    rintro e w' ⟨rfl, q, rfl⟩
    have hb' : Below W.heap.size W ((wr.alloc (.cells #[.int .i64 sz, .slice Ab bs.length cb] 24)).drewN q) := below_drewN (hwr.alloc hwr.size _) q
    exact ⟨rfl, hb', (hk.below hb' hlW).cell 0, (hk.below hb' hlW).cell 1⟩)
  clear hW hb hk
  have hlr : w.heap.size ≤ W.heap.size := Nat.le_of_lt hlW
  go_wp2_with fail
  go_loopg [13] l.length (fun m i wr => ∃ (k : Nat), i = .int .i64 k ∧ k + m = l.length ∧ Hid (Below W.heap.size W wr) ∧ Hid (∀ j (h : j < l.length), j < k → okA (bef sz bs) l l[j] = true))
  case atStart => exact ⟨0, rfl, by omega, HW, fun j _ h => by omega⟩
  case round =>
    obtain ⟨k, rfl, hk, HR, HA⟩ := hrel
    by_cases hlt : k < l.length
    · have SR := Lib.hid (HS.out.cellAt (by omega) (HB.out.trans (HR.out.mono HB.out.size)))
      obtain ⟨b, off, rfl, hbw, hc⟩ := SR.out
      have c0 := hc k _ (nums_at l k hlt)
      clear hc SR
      have o0 : wr.cell? ⟨w.heap.size, 0, none⟩ = some (.int .i64 sz) := (HK.out.below HR.out hlW).cell 0
      have o1 : wr.cell? ⟨w.heap.size, 1, none⟩ = some (.slice Ab bs.length cb) := (HK.out.below HR.out hlW).cell 1
      obtain ⟨x0, hx⟩ : ∃ x0, l[k] = x0 := ⟨_, rfl⟩
      rw [hx] at c0
      have hfx := HF.out x0 (hx ▸ List.getElem_mem hlt)
      have HX := Lib.hid hx
      have hk' := Lib.hid hk
      clear hx hk
      have hlr2 : w.heap.size < wr.heap.size := Nat.lt_of_lt_of_le hlW HR.out.size
      cases haa : bef sz bs x0 x0 with
      | true =>
        have HFL := Lib.hid (weak_fail1 (p := bef sz bs) hlt HX.out haa)
        go_wp2_with (first | (go_at_call 18; (with_reducible refine (HP.out x0 x0 wr HR.out hfx hfx).mono ?_); rintro e w1 ⟨rfl, hb1, p0, p1⟩; have HR1 := Lib.hid hb1; clear hb1))
        go_ret
        exact ⟨by rw [HFL.out]; rfl, HB.out.trans (HR1.out.mono HB.out.size)⟩
      | false =>
        go_wp2_with (first | (go_at_call 18; (with_reducible refine (HP.out x0 x0 wr HR.out hfx hfx).mono ?_); rintro e w1 ⟨rfl, hb1, p0, p1⟩; have HR1 := Lib.hid hb1; clear hb1))
        go_loopg [23] l.length (fun m i wr2 => ∃ (k2 : Nat), i = .int .i64 k2 ∧ k2 + m = l.length ∧ Hid (Below W.heap.size W wr2) ∧ Hid (∀ j (h : j < l.length), j < k2 → okB (bef sz bs) l x0 l[j] = true))
        case atStart => exact ⟨0, rfl, by omega, HR1, fun j _ h => by omega⟩
        case round =>
          obtain ⟨k2, rfl, hk2, HR2, HA2⟩ := hrel
          clear c0 o0 o1 p0 p1 hlr2
          by_cases hlt2 : k2 < l.length
          · obtain ⟨b2, off2, hbo, hbw2, hc⟩ := HS.out.cellAt (by omega) (HB.out.trans (HR2.out.mono HB.out.size))
            obtain ⟨rfl, rfl⟩ : b = b2 ∧ off = off2 := by simpa using hbo
            have d0 := hc k2 _ (nums_at l k2 hlt2)
            clear hc hbo
            obtain ⟨y0, hy⟩ : ∃ x0, l[k2] = x0 := ⟨_, rfl⟩
            rw [hy] at d0
            have hfy := HF.out y0 (hy ▸ List.getElem_mem hlt2)
            have HY := Lib.hid hy
            have hk2' := Lib.hid hk2
            clear hy hk2
            go_wp2_with fail
            clear d0
            go_loopg [29] l.length (fun m i wr3 => ∃ (k3 : Nat), i = .int .i64 k3 ∧ k3 + m = l.length ∧ Hid (Below W.heap.size W wr3) ∧ Hid (∀ j (h : j < l.length), j < k3 → ok3 (bef sz bs) x0 y0 l[j] = true))
            case atStart => exact ⟨0, rfl, by omega, HR2, fun j _ h => by omega⟩
            case round =>
              obtain ⟨k3, rfl, hk3, HR3, HA3⟩ := hrel
              by_cases hlt3 : k3 < l.length
              · obtain ⟨b3, off3, hbo, hbw3, hc⟩ := HS.out.cellAt (by omega) (HB.out.trans (HR3.out.mono HB.out.size))
                obtain ⟨rfl, rfl⟩ : b = b3 ∧ off = off3 := by simpa using hbo
                have d0 := hc k3 _ (nums_at l k3 hlt3)
                clear hc hbo
                obtain ⟨z0, hz⟩ : ∃ x0, l[k3] = x0 := ⟨_, rfl⟩
                rw [hz] at d0
                have hfz := HF.out z0 (hz ▸ List.getElem_mem hlt3)
                have HZ := Lib.hid hz
                have hk3' := Lib.hid hk3
                clear hz hk3
                have o0 : wr.cell? ⟨w.heap.size, 0, none⟩ = some (.int .i64 sz) := (HK.out.below HR3.out hlW).cell 0
                have o1 : wr.cell? ⟨w.heap.size, 1, none⟩ = some (.slice Ab bs.length cb) := (HK.out.below HR3.out hlW).cell 1
                obtain ⟨qv, hqv⟩ : ∃ q, ok3 (bef sz bs) x0 y0 z0 = q := ⟨_, rfl⟩
                have HQV := Lib.hid hqv
                clear hqv
                have HRc := HR3
                cases hab : bef sz bs x0 y0 <;> cases hbc : bef sz bs y0 z0 <;> cases hac : bef sz bs x0 z0
                all_goals
                  go_wp2_with (first
                    | (go_at_call 18; (first | (with_reducible refine (HP.out x0 y0 _ HRc.out hfx hfy).mono ?_) | (with_reducible refine (HP.out y0 z0 _ HRc.out hfy hfz).mono ?_) | (with_reducible refine (HP.out x0 z0 _ HRc.out hfx hfz).mono ?_)); rintro e wc ⟨rfl, hb1, p0, p1⟩; have HRc := Lib.hid hb1; clear hb1))
                all_goals first
                  | (go_ret
                     exact ⟨by rw [weak_fail3 (p := bef sz bs) hlt hlt2 hlt3 HX.out HY.out HZ.out (by simp [ok3, hab, hbc, hac])]; rfl, HB.out.trans (HRc.out.mono HB.out.size)⟩)
                  | (go_roundg (l.length - (k3 + 1))
                     case measure => have := hk3'.out; omega
                     case rel =>
                       exact ⟨k3 + 1, by go_num, by omega, HRc, Lib.hid (fun j h h2 => by
                         by_cases e : j = k3
                         · subst e; rw [HZ.out]; simp [ok3, hab, hbc, hac]
                         · exact HA3.out j h (by omega))⟩)
              · have HOK := Lib.hid (show okB (bef sz bs) l x0 y0 = true from all_get fun j h => HA3.out j h (by omega))
                go_wp2
                go_roundg (l.length - (k2 + 1))
                case measure => have := hk2'.out; omega
                case rel =>
                  exact ⟨k2 + 1, by go_num, by omega, HR3, Lib.hid (fun j h h2 => by
                    by_cases e : j = k2
                    · subst e; rw [HY.out]; exact HOK.out
                    · exact HA2.out j h (by omega))⟩
          · have HOK := Lib.hid (show okA (bef sz bs) l x0 = true from by rw [okA, haa, all_get fun j h => HA2.out j h (by omega)]; rfl)
            go_wp2
            go_roundg (l.length - (k + 1))
            case measure => have := hk'.out; omega
            case rel =>
              exact ⟨k + 1, by go_num, by omega, HR2, Lib.hid (fun j h h2 => by
                by_cases e : j = k
                · subst e; rw [HX.out]; exact HOK.out
                · exact HA.out j h (by omega))⟩
    · have HT := Lib.hid (show weakIn (bef sz bs) l = true from all_get fun j hj => HA.out j hj (by omega))
      go_wp2
      go_ret
      exact ⟨by rw [HT.out]; rfl, HB.out.trans (HR.out.mono HB.out.size)⟩
end Go.Proofs.Ytgijkfkfifjokaa
