/- The watched heap answers as a plain machine; HeapInitCalls, HeapPushCalls, HeapPopCalls. -/
import Derived.Test.YtpglibneflefgaaWatchPop
import Derived.Test.YtpglibneflefgaaDownLog
namespace Go.Proofs.Ytpglibneflefgaa
set_option linter.unusedVariables false
open Go.RowKit

def watchM : HM WS where
  len s := s.1.length
  less s i j := (listM klt).less s.1 i j
  asked s i j := (s.1, s.2 ++ [⟨1, s.1.length, i, j⟩])
  swap s i j := (swp s.1 i j, s.2 ++ [⟨2, s.1.length, i, j⟩])
  cost s := s.2.length
theorem watch_fair : watchM.Fair := ⟨fun _ _ _ => rfl, fun _ _ _ => length_swp _ _ _, fun s i j => by simp [watchM], fun s i j => by simp [watchM]⟩

section
theorem watched_find_Len (a : Nat) (w : World) : (method (Try.prog.types.size + Made.depth) 50 (.pointer (some ⟨a, 0, none⟩)) "Len").run Try.prog w = (do let v ← load ⟨a, 0, none⟩; pure (54, v) : Sem (FuncId × Value)).run Try.prog w := by kernel_rfl
theorem watched_find_Less (a : Addr) (w : World) : (method (Try.prog.types.size + Made.depth) 50 (.pointer (some a)) "Less").run Try.prog w = .ok (57, .pointer (some a)) w := by kernel_rfl
theorem watched_find_Swap (a : Addr) (w : World) : (method (Try.prog.types.size + Made.depth) 50 (.pointer (some a)) "Swap").run Try.prog w = .ok (60, .pointer (some a)) w := by kernel_rfl
theorem watched_find_Push (a : Addr) (w : World) : (method (Try.prog.types.size + Made.depth) 50 (.pointer (some a)) "Push").run Try.prog w = .ok (59, .pointer (some a)) w := by kernel_rfl
theorem watched_find_Pop (a : Addr) (w : World) : (method (Try.prog.types.size + Made.depth) 50 (.pointer (some a)) "Pop").run Try.prog w = .ok (58, .pointer (some a)) w := by kernel_rfl
end
theorem watch_impl (K : Nat → Prop) (w0 : World) (a C : Nat) (N : Nat) (hN : N < 4611686018427387904) (hC : C * 32 ≤ 140737488355328) :
    Impl Try.prog 50 (.pointer (some ⟨a, 0, none⟩)) watchM (fun s w => WAt K w0 a s w ∧ s.1.length ≤ N) C := by
  refine ⟨watch_fair, ?_, ?_, ?_⟩
  · rintro s w ⟨h, hl⟩
    obtain ⟨A, c, A2, c2, hb, _⟩ := h.hdr
    refine ⟨_, _, (watched_find_Len _ w).trans (run_load_pair _ (hb.cell 0)), fun _ _ => by kernel_rfl, ?_⟩
    refine (items_Len A s.1.length c w).mono ?_
    rintro e w' ⟨rfl, rfl⟩
    exact ⟨rfl, h, hl⟩
  · rintro ⟨xs, cs⟩ w i j ⟨h, hl⟩ hi hj hc
    have hi' : i < xs.length := hi
    have hj' : j < xs.length := hj
    have hc' : cs.length < C := hc
    dsimp only at hl
    refine ⟨_, _, watched_find_Less _ w, fun _ _ => by kernel_rfl, ?_⟩
    refine (watched_Less K w0 a xs cs i j w h hi' hj' (by omega) (by omega)).mono ?_
    rintro e w' ⟨rfl, h1⟩
    exact ⟨by show _ = Ending.returned (.bool ((listM klt).less xs i j)); rw [listM_less _ hi' hj'], h1, hl⟩
  · rintro ⟨xs, cs⟩ w i j ⟨h, hl⟩ hi hj hc
    have hi' : i < xs.length := hi
    have hj' : j < xs.length := hj
    have hc' : cs.length < C := hc
    dsimp only at hl
    refine ⟨_, _, watched_find_Swap _ w, fun _ _ => by kernel_rfl, ?_⟩
    refine (watched_Swap K w0 a xs cs i j w h hi' hj' (by omega) (by omega)).mono ?_
    rintro e w' ⟨rfl, h1⟩
    exact ⟨rfl, h1, by show (swp xs i j).length ≤ N; rw [length_swp]; exact hl⟩

theorem wat_new {w w1 : World} {A : Option Addr} {c : Nat} {l : List (Int × Int)} (ho : w1.ownsRow w.heap.size TI 2 (.slice A l.length c) l.length (ics l)) (hb : Below w.heap.size w w1) :
    WAt (· < w.heap.size) w w1.heap.size (l, []) (w1.alloc (.cells #[.slice A l.length c, .slice none 0 0] TW)) :=
  ⟨(Kept.of_below hb fun _ h => h).alloc (fun k hk => hk) _, fun k hk => hk, by have := hb.size; omega, A, c, none, 0, Blk.new _ _ _, own_base (ho.alloc _) (Nat.zero_le _), World.ownsRow_nil _ _ _ _, fun g hg => by have := (ho.lt g hg).1; omega, fun g hg => by simp [Value.ownBlock] at hg⟩

/-- A new slice of calls is handed back; nothing that was there has turned. -/
def NewCalls (w : World) (cs : List Cal) (e : Ending) (w' : World) : Prop :=
  ∃ A c, e = .returned (.slice A cs.length c) ∧ w'.ownsRow 0 TC 4 (.slice A cs.length c) cs.length (ccs cs) ∧ Below w.heap.size w w'
theorem newc_eq {P : Program} {f : FuncId} {args : Array Value} {w : World} {l l' : List Cal} (h : Calls P f args w (NewCalls w l)) (e : l = l') : Calls P f args w (NewCalls w l') := e ▸ h

def initCalls (l : List (Int × Int)) : WS := initM watchM l.length (l.length / 2) (l, [])
def pushCalls (f : Nat) (l : List (Int × Int)) (k t : Int) : WS := upM watchM f l.length (l ++ [(k, t)], [⟨3, l.length, k, t⟩])
def downCalls (f : Nat) (l : List (Int × Int)) : WS := (downM watchM (l.length - 1) f 0 (watchM.swap (l, []) 0 (l.length - 1))).2
def popCalls (f : Nat) (l : List (Int × Int)) : List Cal := (downCalls f l).2 ++ [⟨4, ((l.length - 1 : Nat) : Int) + 1, (at_ (0, 0) (downCalls f l).1 (l.length - 1)).1, (at_ (0, 0) (downCalls f l).1 (l.length - 1)).2⟩]

set_option maxHeartbeats 400000 in
theorem initCalls_any (A : Option Addr) (c : Nat) (l : List (Int × Int)) (w : World) (hs : Sees w w.heap.size 2 A l.length (ics l)) (hn : l.length ≤ 1048576) :
    Calls Try.prog 16 #[.slice A l.length c] w (NewCalls w (initCalls l).2) := by
  have HS := Lib.hid hs
  clear hs
  go_enter Try.func16, Try.ntmps16
  go_wp2_with fail
  refine (copied_any A c l w _ HS.out (by omega)).mono ?_
  rintro e w1 ⟨A1, c1, rfl, ho1, hb1⟩
  have HH := Lib.hid (wat_new ho1 hb1)
  have hcst : 3 * l.length * (l.length / 2) ≤ 3 * 1048576 * 524288 := Nat.mul_le_mul (by omega) (by omega)
  have HI := Lib.hid (watch_impl (· < w.heap.size) w w1.heap.size 1649267441664 l.length (by omega) (by omega))
  have HCS := Lib.hid hcst
  clear ho1 hb1 hcst
  go_wp2_with fail
  refine (init_any HI.out (l, []) _ l.length ⟨HH.out, Nat.le_refl _⟩ rfl (by omega) (by show 0 + _ ≤ _; have := HCS.out; omega)).mono ?_
  rintro e w2 ⟨rfl, hR, _⟩
  obtain ⟨A2, c2, A3, c3, hbk, _, ho3, _⟩ := hR.hdr
  have hh2 : w2.cell? ⟨w1.heap.size, 1, none⟩ = some (.slice A3 (initM watchM l.length (l.length / 2) (l, [])).2.length c3) := hbk.cell 1
  have hl2 : w1.heap.size < w2.heap.size := hbk.lt
  have HB2 := Lib.hid (hR.kept.below fun _ h => h)
  have HO3 := Lib.hid ho3
  clear hR hbk ho3
  go_wp2
  go_ret
  exact ⟨A3, c3, rfl, HO3.out, HB2.out⟩

set_option maxHeartbeats 400000 in
theorem pushCalls_any (f : Nat) (A : Option Addr) (c : Nat) (l : List (Int × Int)) (k t : Int) (w : World) (hs : Sees w w.heap.size 2 A l.length (ics l)) (hn : (l.length + 1) * 16 ≤ 140737488355328) (hf : l.length + 1 ≤ 2 ^ f) (hf2 : f ≤ 60) :
    Calls Try.prog 21 #[.slice A l.length c, .agg #[.int .i64 k, .int .i64 t]] w (NewCalls w (pushCalls f l k t).2) := by
  have HS := Lib.hid hs
  have HN1 := Lib.hid (show l.length + 1 < 4611686018427387904 by omega)
  have HN2 := Lib.hid (show l.length * 16 ≤ 140737488355328 by omega)
  have HN3 := Lib.hid hn
  have HFF := Lib.hid hf
  clear hs hf hn
  go_enter Try.func21, Try.ntmps21
  go_wp2_with fail
  obtain ⟨W, hW⟩ : ∃ W : World, W = (w.alloc (.cells #[.int .i64 k, .int .i64 t] TI)) := ⟨_, rfl⟩
  rw [← hW]
  have hb : Below w.heap.size w W := by rw [hW]; exact (Below.refl _ _).alloc (Nat.le_refl _) _
  have hk : Blk W w.heap.size TI #[.int .i64 k, .int .i64 t] := by rw [hW]; exact Blk.new _ _ _
  have HB := Lib.hid hb
  have HK := Lib.hid hk
  have hlW : w.heap.size < W.heap.size := hk.lt
  clear hW hb hk
  refine (copied_any A c l W _ (HS.out.below HB.out) HN2.out).mono ?_
  rintro e w1 ⟨A1, c1, rfl, ho1, hb1⟩
  have hk1 := HK.out.below hb1 hlW
  have p0 : w1.cell? ⟨w.heap.size, 0, none⟩ = some (.int .i64 k) := hk1.cell 0
  have p1 : w1.cell? ⟨w.heap.size, 1, none⟩ = some (.int .i64 t) := hk1.cell 1
  have hl1 : w.heap.size < w1.heap.size := hk1.lt
  have HH := Lib.hid (wat_new ho1 hb1)
  have HI := Lib.hid (watch_impl (· < W.heap.size) W w1.heap.size 200 (l.length + 1) HN1.out (by decide))
  clear ho1 hb1 hk1
  go_wp2_with fail
  refine (push_log HI.out (l ++ [(k, t)], [⟨3, l.length, k, t⟩]) _ _ l.length f HFF.out ?_ (by show (l ++ [(k, t)]).length = _; simp) HN1.out (by show 1 + _ ≤ _; omega)).mono ?_
  · refine ⟨_, _, watched_find_Push _ _, fun _ _ => by kernel_rfl, ?_⟩
    refine (watched_Push (· < W.heap.size) W w1.heap.size l [] k t _ HH.out HN3.out (by decide)).mono ?_
    rintro e w' ⟨rfl, h1⟩
    exact ⟨rfl, h1, by simp⟩
  rintro e w2 ⟨rfl, hR, _⟩
  obtain ⟨A2, c2, A3, c3, hbk, _, ho3, _⟩ := hR.hdr
  have hh2 : w2.cell? ⟨w1.heap.size, 1, none⟩ = some (.slice A3 (pushCalls f l k t).2.length c3) := hbk.cell 1
  have hl2 : w1.heap.size < w2.heap.size := hbk.lt
  have HB2 := Lib.hid (HB.out.trans ((hR.kept.below fun _ h => h).mono HB.out.size))
  have HO3 := Lib.hid (show w2.ownsRow 0 TC 4 (.slice A3 (pushCalls f l k t).2.length c3) (pushCalls f l k t).2.length (ccs (pushCalls f l k t).2) from ho3)
  clear hR hbk ho3
  go_wp2
  go_ret
  exact ⟨A3, c3, rfl, HO3.out, HB2.out⟩

set_option maxHeartbeats 400000 in
theorem popCalls_any (f : Nat) (A : Option Addr) (c : Nat) (l : List (Int × Int)) (w : World) (hs : Sees w w.heap.size 2 A l.length (ics l)) (hn : l.length * 16 ≤ 140737488355328) (h0 : 0 < l.length) (hf : l.length - 1 < 2 ^ (f + 1)) (hf2 : f ≤ 60) :
    Calls Try.prog 28 #[.slice A l.length c] w (NewCalls w (popCalls f l)) := by
  have HS := Lib.hid hs
  have HFF := Lib.hid hf
  clear hs hf
  go_enter Try.func28, Try.ntmps28
  go_wp2_with fail
  refine (copied_any A c l w _ HS.out (by omega)).mono ?_
  rintro e w1 ⟨A1, c1, rfl, ho1, hb1⟩
  have HH := Lib.hid (wat_new ho1 hb1)
  have HI := Lib.hid (watch_impl (· < w.heap.size) w w1.heap.size 200 l.length (by omega) (by omega))
  clear ho1 hb1
  have hdc : (downM watchM (l.length - 1) f 0 (watchM.swap (l, []) 0 (l.length - 1))).2 = downCalls f l := rfl
  have hdl : (downCalls f l).1.length = l.length := (watch_fair.len_down _ _ _ _).trans (length_swp _ _ _)
  have hdk : (downCalls f l).2.length ≤ 1 + 3 * f := watch_fair.cost_down _ _ _ _
  have hpc : popCalls f l = (downCalls f l).2 ++ [⟨4, ((l.length - 1 : Nat) : Int) + 1, (at_ (0, 0) (downCalls f l).1 (l.length - 1)).1, (at_ (0, 0) (downCalls f l).1 (l.length - 1)).2⟩] := rfl
  obtain ⟨⟨ys, cs⟩, hD⟩ : ∃ D : WS, downCalls f l = D := ⟨_, rfl⟩
  rw [hD] at hdc hdl hdk hpc
  dsimp only at hdl hdk hpc
  obtain ⟨⟨kk, tt⟩, hkt⟩ : ∃ q : Int × Int, at_ (0, 0) ys (l.length - 1) = q := ⟨_, rfl⟩
  rw [hkt] at hpc
  dsimp only at hpc
  have HPC := Lib.hid hpc
  have HDC := Lib.hid hdc
  have HDL := Lib.hid hdl
  have HKT := Lib.hid hkt
  clear hdc hdl hD hpc hkt
  go_wp2_with fail
  refine (pop_log HI.out (l, []) _ (l.length - 1) f HFF.out (.iface TI (.agg #[.int .i64 kk, .int .i64 tt])) (fun w' => WAt (· < w.heap.size) w w1.heap.size (ys.take (l.length - 1), popCalls f l) w') ⟨HH.out, Nat.le_refl _⟩ (by show l.length = _; omega) (by omega) (by show 0 + _ + 1 ≤ _; omega) ?_).mono ?_
  · intro w3 hw3
    rw [HDC.out] at hw3
    refine ⟨_, _, watched_find_Pop _ _, fun _ _ => by kernel_rfl, ?_⟩
    rw [HPC.out]
    exact watched_Pop (· < w.heap.size) w w1.heap.size ys cs (l.length - 1) kk tt w3 hw3.1 (by have := HDL.out; omega) HKT.out (by omega) (by omega)
  rintro e w2 ⟨rfl, hR⟩
  obtain ⟨A2, c2, A3, c3, hbk, _, ho3, _⟩ := hR.hdr
  have hh2 : w2.cell? ⟨w1.heap.size, 1, none⟩ = some (.slice A3 (popCalls f l).length c3) := hbk.cell 1
  have hl2 : w1.heap.size < w2.heap.size := hbk.lt
  have HB2 := Lib.hid (hR.kept.below (B := w.heap.size) fun _ h => h)
  have HO3 := Lib.hid (show w2.ownsRow 0 TC 4 (.slice A3 (popCalls f l).length c3) (popCalls f l).length (ccs (popCalls f l)) from ho3)
  clear hR hbk ho3
  go_wp2
  go_ret
  exact ⟨A3, c3, rfl, HO3.out, HB2.out⟩
end Go.Proofs.Ytpglibneflefgaa
