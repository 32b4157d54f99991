/- HeapInitByOrder, HeapSortByOrder. -/
import Derived.Test.YtgijkfkfifjokaaRelated
import Derived.Deep.RegionLaw
namespace Go.Proofs.Ytgijkfkfifjokaa
set_option linter.unusedVariables false
open Go.RowKit

theorem related_heapPop (sz : Int) (Ab : Option Addr) (cb : Nat) (bs : List Bool) (B : Nat) (K : Nat → Prop) (w0 : World) (a : Nat) (l : List Int) (w : World) (h : IntsAt 44 [.int .i64 sz, .slice Ab bs.length cb] K w0 a l w) (h0 : 0 < l.length) (hn : l.length < 4611686018427387904) (hf : Fits l) (hs : Sees w0 B 1 Ab bs.length (bs.map Value.bool)) (hB : B ≤ w0.heap.size) (hK : ∀ b, b < B → K b) (hnb : bs.length ≤ 140737488355328) (hwz : -9223372036854775808 ≤ sz ∧ sz ≤ 9223372036854775807) :
    Calls Try.prog 31 #[.iface 46 (.pointer (some ⟨a, 0, none⟩))] w fun e w' => e = .returned (.iface 3 (.int .i64 (popTop (bef sz bs) 0 l))) ∧ IntsAt 44 [.int .i64 sz, .slice Ab bs.length cb] K w0 a (popRest (bef sz bs) l) w' := by
  refine pop_any (related_impl sz Ab cb bs B K w0 a (3 * l.length) l.length hn hs hB hK hnb hwz) l w (l.length - 1) _ _ ⟨h, Nat.le_refl _, hf⟩ (by show l.length = _; omega) (by omega) (by show 0 + _ + 1 ≤ _; omega) ?_
  rintro w1 ⟨h1, _, _⟩
  exact ints_pop_at h1 (by decide) (by show (popAll (bef sz bs) l).length = _; rw [popAll_length]; omega) (by omega) (related_find_Pop _ _)

theorem run_append_other {P : Program} {w : World} {t u ty e e' : TypeId} {i : TypeInfo} {x : Value} {A : Option Addr} {n c : Nat} (ht : P.underlying t = some (.slice e)) (hu : P.underlying u = some (.slice e')) (hi : P.info? e = some i) :
    (Builtin.append_ #[t, u] ty #[.slice A n c, x]).run P w = (Builtin.append_ #[t, t] ty #[.slice A n c, x]).run P w := by
  simp [Builtin.append_, run_underlying ht, run_underlying hu, sizeOf, typeInfo, hi]
theorem wpList_append_other {P : Program} (w : World) {ops : Array Oper} {rest : List Oper} {o : Oper} {a : Act} {Q : Exit → Act → World → Prop} (hgd : o.guard = none) (s x : Operand) (t u : TypeId) {e' : TypeId} (hu : P.underlying u = some (.slice e'))
    (ho : o.op = .call { callee := .builtin .append, args := #[s, x], argTypes := #[t, u] })
    (base : Nat) (e : TypeId) (i : TypeInfo) (z : Value) (size bytes : Nat) (ht : P.underlying t = some (.slice e)) (hi : P.info? e = some i) (hz : i.zero = some z)
    (hsize : i.size = size) (hby : i.bytes = bytes) (hzs : z.cells.size = size) (hsz : 0 < size)
    (v : Value) (n : Nat) (xs : List Value) (hs : a.eval s = v) (hown : w.ownsRow base e size v n xs)
    (B : Nat) (A : Option Addr) (m c : Nat) (news : List Value) (hx : a.eval x = .slice A m c) (hr : Sees w B size A m news) (h1 : ∀ u ∈ news, u.oneCell' = true)
    (h63 : n + m ≤ maxLen) (hbytes : (n + m) * bytes ≤ 140737488355328) (hbase : base ≤ w.heap.size)
    (h : ∀ A' c' w', w'.ownsRow base e size (.slice A' (n + m) c') (n + m) (xs ++ news) → w.grownBy w' v.ownBlock → ((Value.slice A' (n + m) c').ownBlock = v.ownBlock ∨ (Value.slice A' (n + m) c').ownBlock = some w.heap.size) → wpList P ops Q rest (a.put o.dst (.slice A' (n + m) c')) w') : wpList P ops Q (o :: rest) a w := by
  refine wpList_plain hgd fun K hK => ?_
  obtain ⟨v', w', hrun, h2, h3, h4⟩ := run_append_row (P := P) w base t o.type e i z size bytes ht hi hz hsize hby hzs hsz v n xs hown B A m c news hr h1 h63 hbytes hbase
  obtain ⟨A0, c0, rfl⟩ := own_slice hown
  rw [← run_append_other ht hu hi] at hrun
  unfold Oper.wp execOp
  simp only [ho, resolve, invoke, builtin, Sem.run_bind, Sem.run_pure, Result.andThen_ok, List.map_toArray, List.map_cons, List.map_nil, hs, hx, hrun]
  obtain ⟨A', c', rfl⟩ := own_slice h2
  exact hK _ _ (h A' c' w' h2 h3 h4)

theorem relAt_stored {w w1 : World} {sz : Int} {Ab A1 : Option Addr} {nb cb c1 a : Nat} {l : List Int} {cs : Array Value} (hcs : cs.size = 3)
    (ho : w1.ownsRow w.heap.size 3 1 (.slice A1 l.length c1) l.length (l.map (Value.int .i64))) (hb : Below w.heap.size w w1) (hz : Blk w1 a 44 cs) (ha : w.heap.size ≤ a) :
    IntsAt 44 [.int .i64 sz, .slice Ab nb cb] (· < w.heap.size) w a l (((w1.setCell ⟨a, 0, none⟩ (.slice A1 l.length c1)).setCell ⟨a, 1, none⟩ (.int .i64 sz)).setCell ⟨a, 2, none⟩ (.slice Ab nb cb)) := by
  have hne := own_blk_ne ho hz (by decide)
  have hna : ¬ a < w.heap.size := by omega
  refine ⟨((((Kept.of_below hb fun _ h => h).setCell hna _).setCell hna _).setCell hna _), fun k hk => hk, hna, A1, c1, ?_, ?_, fun g hg => by have := (ho.lt g hg).1; omega⟩
  · have h3 := ((hz.set_ 0 (.slice A1 l.length c1)).set_ 1 (.int .i64 sz)).set_ 2 (.slice Ab nb cb)
    obtain ⟨x, y, z, rfl⟩ : ∃ x y z, cs = #[x, y, z] := by
      match cs, hcs with
      | ⟨[x, y, z]⟩, _ => exact ⟨x, y, z, rfl⟩
    simpa using h3
  · exact own_base (own_setCell_other (own_setCell_other (own_setCell_other ho hne _) hne _) hne _) (Nat.zero_le _)

set_option maxHeartbeats 800000 in
theorem initByOrder_any (sz : Int) (Ab : Option Addr) (cb : Nat) (bs : List Bool) (A : Option Addr) (c : Nat) (l : List Int) (w : World) (hwz : -9223372036854775808 ≤ sz ∧ sz ≤ 9223372036854775807) (hsb : Sees w w.heap.size 1 Ab bs.length (bs.map Value.bool)) (hnb : bs.length ≤ 140737488355328) (hs : Sees w w.heap.size 1 A l.length (l.map (Value.int .i64))) (hf : Fits l) (hn : l.length * 8 ≤ 140737488355328) :
    Calls Try.prog 15 #[.agg #[.int .i64 sz, .slice Ab bs.length cb], .slice A l.length c] w (NewNums w (initM (listM (bef sz bs)) l.length (l.length / 2) l)) := by
  obtain ⟨i0, hi, hz0, hz1, hz2⟩ := info_parts info_int
  have HS := Lib.hid hs
  have HSB := Lib.hid hsb
  clear hs hsb
  go_enter Try.func15, Try.ntmps15
  go_wp2_with fail
  obtain ⟨W, hW⟩ : ∃ W : World, W = (w.alloc (.cells #[.int .i64 sz, .slice Ab bs.length cb] 28)) := ⟨_, rfl⟩
  rw [← hW]
  have hb : Below w.heap.size w W := by rw [hW]; exact (Below.refl _ _).alloc (Nat.le_refl _) _
  have hk : Blk W w.heap.size 28 #[.int .i64 sz, .slice Ab bs.length cb] := by rw [hW]; exact Blk.new _ _ _
  have e0 : W.cell? ⟨w.heap.size, 0, none⟩ = some (.int .i64 sz) := hk.cell 0
  have e1 : W.cell? ⟨w.heap.size, 1, none⟩ = some (.slice Ab bs.length cb) := hk.cell 1
  have hlW : w.heap.size < W.heap.size := hk.lt
  have HK := Lib.hid hk
  have SX := Lib.hid (HS.out.below hb)
  have HB := Lib.hid hb
  clear hW hb hk
  go_region_law ((
    (refine step_append_row _ rfl (.const (.slice none 0 0)) (.tmp 6) 25 rfl w.heap.size 3 i0 _ 1 8 Try.underlying25 hi hz0 hz1 hz2 rfl (by decide) (.slice none 0 0) 0 [] rfl (World.ownsRow_nil _ _ _ _) w.heap.size A l.length c (l.map (Value.int .i64)) rfl ?_ (nums_cells l) ?_ ?_ ?_ ?_)
    · first | exact SX.out.drew | exact (SX.out.alloc (Nat.le_of_lt hlW) _).drew
    · unfold maxLen; omega
    · omega
    · simp; omega
    intro A1 c1 w1 ho1 hg1 _
    simp only [Nat.zero_add, List.nil_append] at ho1 ⊢
    have hk1 : Blk w1 w.heap.size 28 #[.int .i64 sz, .slice Ab bs.length cb] := by
      first
        | exact HK.out.drew.grown hg1 (fun e => by cases e)
        | exact (HK.out.alloc _).drew.grown hg1 (fun e => by cases e)
    have f0 : w1.cell? ⟨w.heap.size, 0, none⟩ = some (.int .i64 sz) := hk1.cell 0
    have f1 : w1.cell? ⟨w.heap.size, 1, none⟩ = some (.slice Ab bs.length cb) := hk1.cell 1
    have hl1 : w.heap.size < w1.heap.size := hk1.lt
    try
      have hz1 : Blk w1 W.heap.size 44 #[.slice none 0 0, .int .i64 0, .slice none 0 0] := (Blk.new W _ _).drew.grown hg1 (fun e => by cases e)
      have z0 : w1.cell? ⟨W.heap.size, 0, none⟩ = some (.slice none 0 0) := hz1.cell 0
      have z1 : w1.cell? ⟨W.heap.size, 1, none⟩ = some (.int .i64 0) := hz1.cell 1
      have z2 : w1.cell? ⟨W.heap.size, 2, none⟩ = some (.slice none 0 0) := hz1.cell 2
      have y0 : w1.frozen? ⟨W.heap.size, 0, none⟩ = false := hz1.frozen 0
      have y1 : w1.frozen? ⟨W.heap.size, 1, none⟩ = false := hz1.frozen 1
      have y2 : w1.frozen? ⟨W.heap.size, 2, none⟩ = false := hz1.frozen 2
      have hlz : W.heap.size < w1.heap.size := hz1.lt
      have HZ1 := Lib.hid hz1
      clear hz1
    have HO1 := Lib.hid ho1
    have HG1 := Lib.hid hg1
    clear hk1 ho1 hg1))
  all_goals
    have HH := Lib.hid (show IntsAt 44 [.int .i64 sz, .slice Ab bs.length cb] (· < w.heap.size) w _ l _ from by
      first
        | exact heapAt_new HO1.out (HB.out.drew.grown HG1.out (Nat.le_of_lt hlW) (by simp [Value.ownBlock])) (Nat.le_refl _)
        | exact relAt_stored rfl HO1.out ((HB.out.alloc (Nat.le_of_lt hlW) _).drew.grown HG1.out (Nat.le_trans (Nat.le_of_lt hlW) (by simp)) (by simp [Value.ownBlock])) HZ1.out (Nat.le_of_lt hlW))
    clear HO1 HG1 f0 f1 e0 e1
    try clear HZ1 z0 z1 z2 y0 y1 y2
    go_wp2_with fail
    refine (init_any (related_impl sz Ab cb bs w.heap.size (· < w.heap.size) w _ (3 * l.length * (l.length / 2)) l.length (by omega) HSB.out (Nat.le_refl _) (fun _ h => h) hnb hwz) l _ l.length ⟨HH.out, Nat.le_refl _, hf⟩ rfl (by omega) (by show 0 + _ ≤ _; omega)).mono ?_
    rintro e wI ⟨rfl, hR, _⟩
    have hnl : (initM (listM (bef sz bs)) l.length (l.length / 2) l).length = l.length := initM_length (bef sz bs) l
    generalize initM (listM (bef sz bs)) l.length (l.length / 2) l = li at *
    obtain ⟨AI, cI, hbI, hoI, hKI⟩ := hR.hdr
    have hcI : wI.cell? ⟨_, 0, none⟩ = some (.slice AI li.length cI) := hbI.cell 0
    have HOI := Lib.hid hoI
    have HBI := Lib.hid (hR.kept.below (B := w.heap.size) fun _ h => h)
    have HNL := Lib.hid hnl
    have hnla : li.length ≤ l.length := Nat.le_of_eq hnl
    clear hR hbI hoI hKI hnl HH
    go_wp2_with (
      at_builtin
      (refine wpList_append_other _ rfl (.const (.slice none 0 0)) (.tmp 13) 25 42 Try.underlying42 rfl w.heap.size 3 i0 _ 1 8 Try.underlying25 hi hz0 hz1 hz2 rfl (by decide) (.slice none 0 0) 0 [] rfl (World.ownsRow_nil _ _ _ _) wI.heap.size AI li.length cI (li.map (Value.int .i64)) rfl (Sees.of_own HOI.out) (nums_cells li) ?_ ?_ ?_ ?_)
      · unfold maxLen; omega
      · omega
      · exact HBI.out.size
      intro A3 c3 w3 ho3 hg3 _
      simp only [Nat.zero_add, List.nil_append] at ho3 ⊢
      have HO3 := Lib.hid ho3
      have HB3 := Lib.hid (HBI.out.grown hg3 HBI.out.size (by simp [Value.ownBlock]))
      clear ho3 hg3)
    go_ret
    exact ⟨A3, c3, rfl, HO3.out, HB3.out⟩
theorem leftF_sub {α : Type} (lt : α → α → Bool) : ∀ (k : Nat) (l : List α) (x : α), x ∈ leftF lt k l → x ∈ l
  | 0, _, _, h => h
  | k + 1, l, x, h => (popAll_perm lt l).mem_iff.1 (List.mem_of_mem_take (leftF_sub lt k _ x h))
theorem Fits.perm {a b : List Int} (h : Fits a) (p : b.Perm a) : Fits b := fun x hx => h x (p.mem_iff.1 hx)
theorem Fits.left {l : List Int} (h : Fits l) (lt : Int → Int → Bool) (k : Nat) : Fits (leftF lt k l) := fun x hx => h x (leftF_sub lt k l x hx)

set_option maxHeartbeats 1600000 in
theorem sortByOrder_any (sz : Int) (Ab : Option Addr) (cb : Nat) (bs : List Bool) (A : Option Addr) (c : Nat) (l : List Int) (w : World) (hwz : -9223372036854775808 ≤ sz ∧ sz ≤ 9223372036854775807) (hsb : Sees w w.heap.size 1 Ab bs.length (bs.map Value.bool)) (hnb : bs.length ≤ 140737488355328) (hs : Sees w w.heap.size 1 A l.length (l.map (Value.int .i64))) (hf : Fits l) (hn : l.length * 8 ≤ 140737488355328) :
    Calls Try.prog 19 #[.agg #[.int .i64 sz, .slice Ab bs.length cb], .slice A l.length c] w (NewNums w (sortF (bef sz bs) 0 l)) := by
  obtain ⟨i0, hi, hz0, hz1, hz2⟩ := info_parts info_int
  have HS := Lib.hid hs
  have HSB := Lib.hid hsb
  clear hs hsb
  go_enter Try.func19, Try.ntmps19
  go_wp2_with fail
  obtain ⟨W, hW⟩ : ∃ W : World, W = (w.alloc (.cells #[.int .i64 sz, .slice Ab bs.length cb] 28)) := ⟨_, rfl⟩
  rw [← hW]
  have hb : Below w.heap.size w W := by rw [hW]; exact (Below.refl _ _).alloc (Nat.le_refl _) _
  have hk : Blk W w.heap.size 28 #[.int .i64 sz, .slice Ab bs.length cb] := by rw [hW]; exact Blk.new _ _ _
  have e0 : W.cell? ⟨w.heap.size, 0, none⟩ = some (.int .i64 sz) := hk.cell 0
  have e1 : W.cell? ⟨w.heap.size, 1, none⟩ = some (.slice Ab bs.length cb) := hk.cell 1
  have hlW : w.heap.size < W.heap.size := hk.lt
  have HK := Lib.hid hk
  have SX := Lib.hid (HS.out.below hb)
  have HB := Lib.hid hb
  clear hW hb hk
  go_region_law ((
    (refine step_append_row _ rfl (.const (.slice none 0 0)) (.tmp 7) 25 rfl w.heap.size 3 i0 _ 1 8 Try.underlying25 hi hz0 hz1 hz2 rfl (by decide) (.slice none 0 0) 0 [] rfl (World.ownsRow_nil _ _ _ _) w.heap.size A l.length c (l.map (Value.int .i64)) rfl ?_ (nums_cells l) ?_ ?_ ?_ ?_)
    · first | exact SX.out.drew | exact (SX.out.alloc (Nat.le_of_lt hlW) _).drew
    · unfold maxLen; omega
    · omega
    · simp; omega
    intro A1 c1 w1 ho1 hg1 _
    simp only [Nat.zero_add, List.nil_append] at ho1 ⊢
    have hk1 : Blk w1 w.heap.size 28 #[.int .i64 sz, .slice Ab bs.length cb] := by
      first
        | exact HK.out.drew.grown hg1 (fun e => by cases e)
        | exact (HK.out.alloc _).drew.grown hg1 (fun e => by cases e)
    have f0 : w1.cell? ⟨w.heap.size, 0, none⟩ = some (.int .i64 sz) := hk1.cell 0
    have f1 : w1.cell? ⟨w.heap.size, 1, none⟩ = some (.slice Ab bs.length cb) := hk1.cell 1
    have hl1 : w.heap.size < w1.heap.size := hk1.lt
    try
      have hz1 : Blk w1 W.heap.size 44 #[.slice none 0 0, .int .i64 0, .slice none 0 0] := (Blk.new W _ _).drew.grown hg1 (fun e => by cases e)
      have z0 : w1.cell? ⟨W.heap.size, 0, none⟩ = some (.slice none 0 0) := hz1.cell 0
      have z1 : w1.cell? ⟨W.heap.size, 1, none⟩ = some (.int .i64 0) := hz1.cell 1
      have z2 : w1.cell? ⟨W.heap.size, 2, none⟩ = some (.slice none 0 0) := hz1.cell 2
      have y0 : w1.frozen? ⟨W.heap.size, 0, none⟩ = false := hz1.frozen 0
      have y1 : w1.frozen? ⟨W.heap.size, 1, none⟩ = false := hz1.frozen 1
      have y2 : w1.frozen? ⟨W.heap.size, 2, none⟩ = false := hz1.frozen 2
      have hlz : W.heap.size < w1.heap.size := hz1.lt
      have HZ1 := Lib.hid hz1
      clear hz1
    have HO1 := Lib.hid ho1
    have HG1 := Lib.hid hg1
    clear hk1 ho1 hg1))
  all_goals
    have HH := Lib.hid (show IntsAt 44 [.int .i64 sz, .slice Ab bs.length cb] (· < w.heap.size) w _ l _ from by
      first
        | exact heapAt_new HO1.out (HB.out.drew.grown HG1.out (Nat.le_of_lt hlW) (by simp [Value.ownBlock])) (Nat.le_refl _)
        | exact relAt_stored rfl HO1.out ((HB.out.alloc (Nat.le_of_lt hlW) _).drew.grown HG1.out (Nat.le_trans (Nat.le_of_lt hlW) (by simp)) (by simp [Value.ownBlock])) HZ1.out (Nat.le_of_lt hlW))
    clear HO1 HG1 f0 f1 e0 e1
    try clear HZ1 z0 z1 z2 y0 y1 y2
    go_wp2_with fail
    refine (init_any (related_impl sz Ab cb bs w.heap.size (· < w.heap.size) w _ (3 * l.length * (l.length / 2)) l.length (by omega) HSB.out (Nat.le_refl _) (fun _ h => h) hnb hwz) l _ l.length ⟨HH.out, Nat.le_refl _, hf⟩ rfl (by omega) (by show 0 + _ ≤ _; omega)).mono ?_
    rintro e wI ⟨rfl, hR, _, hfI⟩
    have hsf : sortF (bef sz bs) 0 l = popsF (bef sz bs) 0 l.length (initM (listM (bef sz bs)) l.length (l.length / 2) l) := rfl
    have hnl : (initM (listM (bef sz bs)) l.length (l.length / 2) l).length = l.length := initM_length (bef sz bs) l
    generalize initM (listM (bef sz bs)) l.length (l.length / 2) l = li at *
    have HL := Lib.hid hnl
    have HSF := Lib.hid hsf
    have HFI := Lib.hid hfI
    have HHI := Lib.hid hR
    have HBI := Lib.hid (hR.kept.below (B := w.heap.size) fun _ h => h)
    clear hR hnl HH hsf hfI
    go_wp2_with fail
    go_loopg [6, 15] l.length (fun m v i wr => ∃ (k : Nat) (A' : Option Addr) (c' : Nat), i = .int .i64 k ∧ k + m = l.length ∧ v = .slice A' k c' ∧ Hid (wr.ownsRow w.heap.size 3 1 (.slice A' k c') k ((popsF (bef sz bs) 0 k li).map (Value.int .i64))) ∧ Hid (Below w.heap.size w wr) ∧ Hid (IntsAt 44 [.int .i64 sz, .slice Ab bs.length cb] (fun b => b < w.heap.size ∨ (Value.slice A' k c').ownBlock = some b) wr _ (leftF (bef sz bs) k li) wr))
    case atStart =>
      exact ⟨0, none, 0, rfl, by omega, rfl, World.ownsRow_nil _ _ _ _, HBI.out, heap_start_beside HHI.out HBI.out.size⟩
    case round =>
      obtain ⟨k, A', c', rfl, hk, rfl, HO, HB, HI⟩ := hrel
      by_cases hlt : k < l.length
      · have hps := popsF_succ (bef sz bs) 0 k li
        have hls := leftF_succ (bef sz bs) k li
        have hpop := related_heapPop sz Ab cb bs w.heap.size _ wr _ (leftF (bef sz bs) k li) wr HI.out (by rw [leftF_length, HL.out]; omega) (by rw [leftF_length, HL.out]; omega) (HFI.out.left _ k) (HSB.out.below HB.out) HB.out.size (fun _ h => .inl h) hnb hwz
        rw [← hls] at hpop
        obtain ⟨xk, hX⟩ : ∃ x, popTop (bef sz bs) 0 (leftF (bef sz bs) k li) = x := ⟨_, rfl⟩
        rw [hX] at hpop hps
        have HPS := Lib.hid hps
        have HPOP := Lib.hid hpop
        clear hps hls hpop hX
        have hta := assert_ints ((Value.int .i64) xk)
        have hkl : k + 1 ≤ l.length := hlt
        have hk' := Lib.hid hk
        clear hk
        go_wp2_with (first
          | (go_at_call 31
             refine HPOP.out.mono ?_
             rintro e w2 ⟨rfl, hI2⟩
             have HI2 := Lib.hid hI2
             have HO2 := Lib.hid (own_kept HO.out hI2.kept (fun g hg => .inr hg))
             have HB2 := Lib.hid (HB.out.trans (hI2.kept.below (fun b hb => .inl hb)))
             clear hI2)
          | (at_builtin
             (refine wpList_append_row _ rfl (.tmp 17) (.tmp 21) 25 rfl w.heap.size 3 i0 _ 1 8 Try.underlying25 hi hz0 hz1 hz2 rfl (by decide) (.slice A' k c') k ((popsF (bef sz bs) 0 k li).map (Value.int .i64)) rfl ?_ (w2.heap.size + 1) (some ⟨w2.heap.size, 0, none⟩) 1 1 [(Value.int .i64) xk] rfl ?_ (one_cell _) ?_ ?_ ?_ ?_)
             · exact HO2.out.alloc _
             · exact sees_new rfl
             · unfold maxLen; omega
             · omega
             · have := HB2.out.size; simp; omega
             intro A3 c3 w3 hown hg hat
             have HO3 := Lib.hid hown
             have HB3 := Lib.hid ((HB2.out.alloc HB2.out.size _).grown hg (by have := HB2.out.size; simp; omega) (fun g hgg => (HO.out.lt g hgg).1))
             have HI3 := Lib.hid (heap_beside HI2.out (World.grownBy_alloc _ _ none) hg hat (own_lt hown) HB3.out.size)
             clear hown hg hat))
        go_roundg (l.length - (k + 1))
        case measure => have := hk'.out; omega
        case rel => exact ⟨k + 1, A3, c3, by go_num, by omega, rfl, by rw [HPS.out, List.map_append]; exact HO3, HB3, HI3⟩
      · obtain rfl : k = l.length := by omega
        go_wp2
        go_ret
        refine ⟨A', c', ?_, ?_, HB.out⟩
        · rw [sortF_length]; rfl
        · rw [sortF_length, HSF.out]; exact HO.out
end Go.Proofs.Ytgijkfkfifjokaa
