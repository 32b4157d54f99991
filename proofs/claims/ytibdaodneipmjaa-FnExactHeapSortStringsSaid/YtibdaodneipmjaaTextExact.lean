/- The exact laws' own functions on strings: toStringS, eqStringS, szStringS, markText, markStringS, heldStringS. -/
import Derived.Test.YtibdaodneipmjaaStrs
import Derived.Test.YtibdaodneipmjaaExact
import Derived.Laws.OwnMore
import Derived.Maps.AppendAt
import Derived.Deep.RegionHeld3
import Derived.Laws.BytesString
namespace Go.Proofs.Ytibdaodneipmjaa
set_option linter.unusedVariables false
open Go.RowKit

theorem made_strs (n : Nat) : (madeCells (Value.string ByteArray.empty).cells (n * 1)).toList = (List.replicate n ByteArray.empty).map Value.string := by
  rw [Nat.mul_one, show (Value.string ByteArray.empty).cells = #[Value.string ByteArray.empty] from rfl, toList_madeCells_one, List.map_replicate]
theorem texts_of_parts {cur l : List ByteArray} (hl : cur.length = l.length) (h : ∀ j (h1 : j < cur.length) (h2 : j < l.length), cur[j] = l[j]) : cur = l := List.ext_getElem hl h

set_option maxHeartbeats 800000 in
theorem toStringS_any (A : Option Addr) (c : Nat) (l : List ByteArray) (w : World) (hs : Sees w w.heap.size 1 A l.length (l.map Value.string)) (hn : l.length ≤ 1048576) :
    Calls Try.prog 32 #[.slice A l.length c] w (NewStrs w l) := by
  obtain ⟨i0, hi, hz0, hz1, hz2⟩ := info_parts info_text
  have HS := Lib.hid hs
  clear hs
  obtain ⟨w1, hmk, hown, hgr⟩ := run_makeSlice_full (P := Try.prog) (w := w) w.heap.size 29 9 i0 (.string ByteArray.empty) 1 Try.underlying29 hi hz0 hz1 .i64 .i64 l.length (by omega) (by rw [hz2]; omega) (by unfold maxLen; omega) (Nat.le_refl _)
  rw [made_strs] at hown
  have HO := Lib.hid hown
  have HB := Lib.hid ((Below.refl w.heap.size w).grown hgr (Nat.le_refl _) (by simp))
  clear hown hgr
  go_enter Try.func32, Try.ntmps32
  go_wp2
  go_loopg [4] l.length (fun m i wr => ∃ (k : Nat) (cur : List ByteArray), i = .int .i64 k ∧ k + m = l.length ∧ Hid (cur.length = l.length) ∧ Hid (∀ j (h1 : j < cur.length) (h2 : j < l.length), j < k → cur[j] = l[j]) ∧ Hid (wr.ownsRow w.heap.size 9 1 (.slice (some ⟨w.heap.size, 0, none⟩) l.length l.length) l.length (cur.map Value.string)) ∧ Hid (Below w.heap.size w wr))
  case atStart => exact ⟨0, List.replicate l.length ByteArray.empty, rfl, by omega, List.length_replicate, fun j _ _ h => by omega, HO, HB⟩
  case round =>
    obtain ⟨k, cur, rfl, hk, HCL, HC, HO, HB⟩ := hrel
    by_cases hlt : k < l.length
    · obtain ⟨b, off, rfl, hbw, hc⟩ := HS.out.cellAt (by omega) HB.out
      have c0 := hc k _ (strs_at l k hlt)
      clear hc
      have hkc : k < cur.length := by rw [HCL.out]; exact hlt
      have d0 : wr.cell? ⟨w.heap.size, k, none⟩ = some (.string cur[k]) := by rw [HO.out.cellAt k (by omega)]; exact strs_at cur k hkc
      have hf := HO.out.frozenAt k
      have hb1 : w.heap.size < wr.heap.size := (HO.out.lt _ rfl).2
      have hbw' : b < wr.heap.size := Nat.lt_of_lt_of_le hbw HB.out.size
      have HC' := Lib.hid (show ∀ j (h1 : j < (cur.set k l[k]).length) (h2 : j < l.length), j < k + 1 → (cur.set k l[k])[j] = l[j] from fun j h1 h2 h3 => by
        rw [List.getElem_set]
        split
        · next e => subst e; rfl
        · exact HC.out j (by simpa using h1) h2 (by omega))
      have hst := HO.out.stored k (.string l[k])
      rw [← List.map_set] at hst
      have HO' := Lib.hid hst.1
      have HB' := Lib.hid (HB.out.grown hst.2 HB.out.size (by simp))
      have HCL' := Lib.hid (show (cur.set k l[k]).length = l.length by rw [List.length_set]; exact HCL.out)
      generalize cur.set k l[k] = cur' at *
      clear hst
      generalize l[k] = xk at *
      generalize cur[k] = yk at *
      have hk' := Lib.hid hk
      clear hk
      go_wp2
      go_roundg (l.length - (k + 1))
      case measure => have := hk'.out; omega
      case rel => exact ⟨k + 1, cur', by go_num, by omega, HCL', HC', HO', HB'⟩
    · have HE := Lib.hid (texts_of_parts HCL.out fun j h1 h2 => HC.out j h1 h2 (by omega))
      go_wp2
      go_ret
      exact ⟨_, _, rfl, by rw [← HE.out]; rw [HCL.out]; exact HO.out, HB.out⟩
set_option maxHeartbeats 800000 in
theorem eqStringS_any (A1 A2 : Option Addr) (c1 c2 : Nat) (la lb : List ByteArray) (w : World) (B1 B2 : Nat) (hsa : Sees w B1 1 A1 la.length (la.map Value.string)) (hsb : Sees w B2 1 A2 lb.length (lb.map Value.string))
    (hna : la.length < 4611686018427387904) (hnb : lb.length < 4611686018427387904) :
    Calls Try.prog 34 #[.slice A1 la.length c1, .slice A2 lb.length c2] w fun e w' => e = .returned (.bool (decide (la = lb))) ∧ ∃ q, w' = w.drewN q := by
  have HSA := Lib.hid hsa
  have HSB := Lib.hid hsb
  clear hsa hsb
  by_cases hl : la.length = lb.length
  · have hlz : ((la.length : Int) != (lb.length : Int)) = false := by simp [hl]
    have HL := Lib.hid hl
    clear hl
    go_enter Try.func34, Try.ntmps34
    go_wp2
    go_loopg [5] la.length (fun m i wr => ∃ (k q : Nat), i = .int .i64 k ∧ k + m = la.length ∧ Hid (∀ j (ha : j < la.length) (hb : j < lb.length), j < k → la[j] = lb[j]) ∧ wr = w.drewN q)
    case atStart => exact ⟨0, 0, rfl, by omega, fun j _ _ h => by omega, rfl⟩
    case round =>
      obtain ⟨k, q, rfl, hk, HO, rfl⟩ := hrel
      by_cases hlt : k < la.length
      · have hltb : k < lb.length := by have := HL.out; omega
        obtain ⟨b, off, rfl, hbw, hc⟩ := HSA.out.2 (by omega)
        have c0 := hc k _ (strs_at la k hlt)
        clear hc
        obtain ⟨b2, off2, rfl, hbw2, hc⟩ := HSB.out.2 (by omega)
        have d0 := hc k _ (strs_at lb k hltb)
        clear hc
        have hkl : k + 1 ≤ la.length := hlt
        have hklb : k + 1 ≤ lb.length := hltb
        have hk' := Lib.hid hk
        clear hk
        obtain ⟨x0, hx⟩ : ∃ x, la[k] = x := ⟨_, rfl⟩
        obtain ⟨y0, hy⟩ : ∃ x, lb[k] = x := ⟨_, rfl⟩
        rw [hx] at c0
        rw [hy] at d0
        have HX := Lib.hid hx
        have HY := Lib.hid hy
        clear hx hy
        by_cases e : x0 = y0
        · subst e
          have HO' := Lib.hid (show ∀ j (ha : j < la.length) (hb : j < lb.length), j < k + 1 → la[j] = lb[j] from fun j ha hb h2 => by
            by_cases e : j = k
            · subst e; rw [HX.out, HY.out]
            · exact HO.out j ha hb (by omega))
          clear HO
          have e1 : (x0.toList != x0.toList) = false := by simp
          have e2 : (x0.toList == x0.toList) = true := by simp
          go_wp2_with fail
          go_quiet (fail)
          go_wp2
          go_roundg (la.length - (k + 1))
          case measure => have := hk'.out; omega
          case rel => exact ⟨k + 1, _, by go_num, by omega, HO', rfl⟩
        · have HF := Lib.hid (decide_eq_false (ints_ne_of_get hlt hltb (by rw [HX.out, HY.out]; exact e)))
          have e2 : (x0.toList == y0.toList) = false := by rw [beq_text]; exact decide_eq_false e
          have e1 : (x0.toList != y0.toList) = true := by rw [bne, e2]; rfl
          clear e
          go_wp2_with fail
          go_quiet (fail)
          go_wp2
          go_ret
          rw [HF.out]
          exact ⟨rfl, _, World.drewN_drewN _ _ _⟩
      · have HT := Lib.hid (decide_eq_true (List.ext_getElem HL.out fun j ha hb => HO.out j ha hb (by omega)))
        go_wp2
        go_ret
        rw [HT.out]
        exact ⟨rfl, _, rfl⟩
  · have hlz : ((la.length : Int) != (lb.length : Int)) = true := by rw [bne_iff_ne]; omega
    have HL := Lib.hid (decide_eq_false (p := la = lb) (fun e => hl (by rw [e])))
    clear hl
    go_enter Try.func34, Try.ntmps34
    go_wp2
    go_ret
    rw [HL.out]
    exact ⟨rfl, 0, rfl⟩

/-- What szStringS says of a list. -/
def SzPost (l : List ByteArray) (w : World) (e : Ending) (w' : World) : Prop := ∃ r : Int, e = .returned (.int .i64 r) ∧ w = w' ∧ (-1 ≤ r ∧ r ≤ 1048576) ∧ (r < 0 ∨ l.length ≤ 1048576)
set_option maxHeartbeats 800000 in
theorem szStringS_any (A : Option Addr) (c : Nat) (l : List ByteArray) (w : World) (B : Nat) (hs : Sees w B 1 A l.length (l.map Value.string)) (hw : ∀ x ∈ l, x.size ≤ maxLen) (hn : l.length < 4611686018427387904) :
    Calls Try.prog 30 #[.slice A l.length c, .int .i64 1048576] w (SzPost l w) := by
  have HS := Lib.hid hs
  have HW := Lib.hid hw
  clear hs hw
  by_cases hbig : (1048576 : Int) - (l.length : Int) < 0
  · have t0 : decide ((1048576 : Int) - (l.length : Int) < 0) = true := decide_eq_true hbig
    have t1 : decide ((1048576 : Int) < (l.length : Int)) = true := decide_eq_true (by omega)
    go_enter Try.func30, Try.ntmps30
    go_wp2
    go_ret
    exact ⟨-1, rfl, rfl, by omega, .inl (by omega)⟩
  have t0 : decide ((1048576 : Int) - (l.length : Int) < 0) = false := decide_eq_false hbig
  have t1 : decide ((1048576 : Int) < (l.length : Int)) = false := decide_eq_false (by omega)
  go_enter Try.func30, Try.ntmps30
  go_wp2
  clear t0 t1
  go_loopg [1, 5] l.length (fun m v i wr => ∃ (k : Nat) (r : Int), i = .int .i64 k ∧ v = .int .i64 r ∧ k + m = l.length ∧ 0 ≤ r ∧ r ≤ 1048576 ∧ w = wr)
  case atStart => exact ⟨0, _, rfl, rfl, by omega, by omega, by omega, rfl⟩
  case round =>
    obtain ⟨k, r, rfl, rfl, hk, hr0, hr1, rfl⟩ := hrel
    by_cases hlt : k < l.length
    · obtain ⟨b, off, rfl, hbw, hc⟩ := HS.out.2 (by omega)
      have c0 := hc k _ (strs_at l k hlt)
      have hsz := HW.out _ (List.getElem_mem hlt)
      unfold maxLen at hsz
      clear hc
      generalize l[k] = x at *
      have hk' := Lib.hid hk
      clear hk
      have hkl : k + 1 ≤ l.length := hlt
      by_cases h1 : r - (x.size : Int) < 0
      · have t1 : decide (r - (x.size : Int) < 0) = true := decide_eq_true h1
        have t2 : decide (r < (x.size : Int)) = true := decide_eq_true (by omega)
        go_wp2
        go_ret
        exact ⟨-1, rfl, rfl, by omega, .inl (by omega)⟩
      · have t1 : decide (r - (x.size : Int) < 0) = false := decide_eq_false h1
        have t2 : decide (r < (x.size : Int)) = false := decide_eq_false (by omega)
        go_wp2
        go_roundg (l.length - (k + 1))
        case measure => have := hk'.out; omega
        case rel => exact ⟨k + 1, _, by go_num, rfl, by omega, by omega, by omega, rfl⟩
    · go_wp2
      go_ret
      exact ⟨r, rfl, rfl, by omega, .inr (by omega)⟩

def mtOne (n : Nat) : ByteArray := ByteArray.empty.push (UInt8.ofNat (48 + (n : Int) % 10).toNat)
def mtL : Nat → Nat → ByteArray → ByteArray
  | 0, _, o => o
  | f + 1, n, o => if 0 < n then mtL f (n / 10) (mtOne n ++ o) else o
theorem mtL_go {f n : Nat} {o : ByteArray} (h : 0 < n) : mtL (f + 1) n o = mtL f (n / 10) (mtOne n ++ o) := if_pos h
theorem mtL_end {f : Nat} {o : ByteArray} : mtL f 0 o = o := by cases f <;> rfl
/-- The text that markText answers. -/
def mtF (k : Nat) : ByteArray := if k = 0 then ⟨#[109, 48]⟩ else ⟨#[109]⟩ ++ mtL k k ByteArray.empty
theorem one_size (n : Nat) (o : ByteArray) : (mtOne n ++ o).size = o.size + 1 := by
  rw [ByteArray.size_append, Nat.add_comm]; rfl
theorem run_one (w : World) (n : Nat) (z : Int) (hz : z = 48 + (n : Int) % 10) : (convert 55 9 (.slice (some ⟨w.heap.size, 0, none⟩) 1 1)).run Try.prog (w.alloc (.cells #[.int .u8 z] 5)) = .ok (.string (mtOne n)) (w.alloc (.cells #[.int .u8 z] 5)) := by
  rw [run_convert_bytes_string _ _ _ _ _ _ _ Try.underlying55 Try.underlying5 Try.underlying9, run_bytesToString _ _ _ _ [z]]
  · subst hz; rfl
  · simp [loadCells, go_sem]

set_option maxHeartbeats 800000 in
theorem markText_any (k : Nat) (w : World) (h1 : k ≤ 4194304) :
    Calls Try.prog 43 #[.int .i64 k] w fun e w' => e = .returned (.string (mtF k)) ∧ Below w.heap.size w w' := by
  by_cases hz : k = 0
  · subst hz
    go_enter Try.func43, Try.ntmps43
    go_wp2
    go_ret
    exact ⟨rfl, Below.refl _ _⟩
  have t0 : decide ((k : Int) ≤ 0) = false := decide_eq_false (by omega)
  have HF := Lib.hid (show mtF k = ⟨#[109]⟩ ++ mtL k k ByteArray.empty from if_neg hz)
  go_enter Try.func43, Try.ntmps43
  go_wp2
  go_loopg [0, 3] k (fun m v s wr => ∃ (n : Nat) (o : ByteArray), v = .int .i64 n ∧ s = .string o ∧ n ≤ m ∧ o.size + n ≤ k ∧ Hid (mtL m n o = mtL k k ByteArray.empty) ∧ Hid (Below w.heap.size w wr))
  case atStart => exact ⟨k, ByteArray.empty, rfl, rfl, Nat.le_refl _, by simp, rfl, Below.refl _ _⟩
  case round =>
    obtain ⟨n, o, rfl, rfl, hn, hn1, HE, HB⟩ := hrel
    by_cases hp : 0 < n
    · have t1 : decide (0 < n) = true := decide_eq_true hp
      have t1' : decide ((0 : Int) < (n : Int)) = true := decide_eq_true (by omega)
      obtain ⟨f, rfl⟩ : ∃ f, gk = f + 1 := ⟨gk - 1, by omega⟩
      have HE' := Lib.hid ((mtL_go (f := f) (o := o) hp).symm.trans HE.out)
      have hcv := run_one wr n _ rfl
      have hsz := one_size n o
      have hon : (mtOne n).size = 1 := rfl
      obtain ⟨n', hn'⟩ : ∃ n' : Nat, n' = n / 10 := ⟨_, rfl⟩
      rw [← hn'] at HE'
      have hda : (n : Int) / 10 = (n' : Int) := by omega
      have hn2 : n' ≤ f := by omega
      have hn3 : o.size + 1 + n' ≤ k := by omega
      have HN' := Lib.hid hn'
      clear hn'
      go_wp2
      go_roundg f
      case measure => omega
      case rel => exact ⟨n', _, rfl, rfl, hn2, by rw [one_size]; exact hn3, HE', Lib.hid (HB.out.alloc HB.out.size _)⟩
    · obtain rfl : n = 0 := by omega
      have HM := Lib.hid (show mtF k = ⟨#[109]⟩ ++ o by rw [HF.out, ← HE.out, mtL_end])
      go_wp2
      go_ret
      exact ⟨by rw [HM.out]; rfl, HB.out⟩

def marksT (k n : Nat) : List ByteArray := (List.range n).map fun (j : Nat) => mtF (k + j)
@[simp] theorem marksT_length (k n : Nat) : (marksT k n).length = n := by simp [marksT]
theorem marksT_get (k n j : Nat) (h : j < (marksT k n).length) : (marksT k n)[j] = mtF (k + j) := by simp [marksT]
theorem grown_of_below {w w' : World} (h : Below w.heap.size w w') (row : Option Nat) : w.grownBy w' row := ⟨h.os, h.tape, h.output, h.size, fun k hk _ => h.block k hk⟩

set_option maxHeartbeats 800000 in
theorem heldStringS_any (A : Option Addr) (c : Nat) (l : List ByteArray) (k0 : Nat) (w : World) (hs : Sees w w.heap.size 1 A l.length (l.map Value.string)) (hl : l = marksT k0 l.length) (hn : l.length ≤ 1048576) (h1 : k0 ≤ 1048576) :
    Calls Try.prog 36 #[.slice A l.length c, .int .i64 k0] w fun e w' => e = .returned (.int .i64 ((k0 : Int) + (l.length : Int))) ∧ Below w.heap.size w w' := by
  have HS := Lib.hid hs
  have HL := Lib.hid (show ∀ j (h : j < l.length), l[j] = mtF (k0 + j) from fun j h => by
    have := marksT_get k0 l.length j (by simpa using h)
    rw [← this]; congr 1)
  clear hs hl
  go_enter Try.func36, Try.ntmps36
  go_wp2
  go_loopg [1, 5] l.length (fun m v i wr => ∃ (k : Nat), i = .int .i64 k ∧ v = .int .i64 ((k0 : Int) + (k : Int)) ∧ k + m = l.length ∧ Hid (Below w.heap.size w wr))
  case atStart => exact ⟨0, rfl, by simp, by omega, Below.refl _ _⟩
  case round =>
    obtain ⟨k, rfl, rfl, hk, HB⟩ := hrel
    by_cases hlt : k < l.length
    · obtain ⟨b, off, rfl, hbw, hc⟩ := HS.out.2 (by omega)
      have c0 := hc k _ (strs_at l k hlt)
      rw [HL.out k hlt] at c0
      clear hc
      have HC := Lib.hid (show ∀ w', Below w.heap.size w w' → w'.cell? ⟨b, off + k, none⟩ = some (.string (mtF (k0 + k))) from fun w' hb' => (hb'.cell (p := ⟨b, off + k, none⟩) hbw).trans c0)
      have d0 := HC.out wr HB.out
      have HM := Lib.hid (show ∀ wr', Calls Try.prog 43 #[.int .i64 ((k0 : Int) + (k : Int))] wr' fun e w' => e = .returned (.string (mtF (k0 + k))) ∧ Below wr'.heap.size wr' w' from fun wr' => by
        have := markText_any (k0 + k) wr' (by omega)
        rwa [Int.natCast_add] at this)
      generalize mtF (k0 + k) = tx at *
      have hne : (tx.toList != tx.toList) = false := by simp
      have hne2 : (tx.toList == tx.toList) = true := by simp
      have hk' := Lib.hid hk
      have hkl : k + 1 ≤ l.length := hlt
      have hlb : b < wr.heap.size := Nat.lt_of_lt_of_le hbw HB.out.size
      clear hk c0
      go_wp2_with fail
      go_region_held3 (fun w' => w'.cell? ⟨b, off + k, none⟩ = some (.string tx)) (first | go_keep | (exact by assumption))
        (first | (go_at_call 43; (with_reducible refine (HM.out _).mono ?_); rintro e w1 ⟨rfl, hb1⟩; have HB1 := Lib.hid (HB.out.drew.trans (hb1.mono HB.out.drew.size)); have d1 := HC.out w1 HB1.out; clear hb1))
      all_goals go_wp2
      all_goals go_roundg (l.length - (k + 1))
      all_goals first | (have := hk'.out; omega) | exact ⟨k + 1, by go_num, by go_num, by omega, HB1⟩
    · obtain rfl : k = l.length := by omega
      go_wp2
      go_ret
      exact ⟨rfl, HB.out⟩

set_option maxHeartbeats 800000 in
theorem markStringS_any (A : Option Addr) (c : Nat) (l : List ByteArray) (k0 : Nat) (w : World) (base : Nat) (ho : w.ownsRow base 9 1 (.slice A l.length c) l.length (l.map Value.string)) (hn : l.length ≤ 1048576) (h1 : k0 ≤ 1048576) :
    Calls Try.prog 35 #[.slice A l.length c, .int .i64 k0] w fun e w' => e = .returned (.int .i64 ((k0 : Int) + (l.length : Int))) ∧ w'.ownsRow base 9 1 (.slice A l.length c) l.length ((marksT k0 l.length).map Value.string) ∧ w.grownBy w' (Value.slice A l.length c).ownBlock := by
  have HO := Lib.hid ho
  clear ho
  go_enter Try.func35, Try.ntmps35
  go_wp2
  go_loopg [1, 5] l.length (fun m v i wr => ∃ (k : Nat) (cur : List ByteArray), i = .int .i64 k ∧ v = .int .i64 ((k0 : Int) + (k : Int)) ∧ k + m = l.length ∧ Hid (cur.length = l.length) ∧ Hid (∀ j (h1 : j < cur.length), j < k → cur[j] = mtF (k0 + j)) ∧ Hid (wr.ownsRow base 9 1 (.slice A l.length c) l.length (cur.map Value.string)) ∧ Hid (w.grownBy wr (Value.slice A l.length c).ownBlock))
  case atStart => exact ⟨0, l, rfl, by simp, by omega, rfl, fun j _ h => by omega, HO, World.grownBy.refl _ _⟩
  case round =>
    obtain ⟨k, cur, rfl, rfl, hk, HCL, HC, HO, HG⟩ := hrel
    by_cases hlt : k < l.length
    · obtain ⟨g, cap, hv, _⟩ := HO.out.form (by omega)
      obtain ⟨rfl, rfl⟩ : A = some ⟨g, 0, none⟩ ∧ c = cap := by simpa using hv
      have hkc : k < cur.length := by rw [HCL.out]; exact hlt
      have HM := Lib.hid (show Calls Try.prog 43 #[.int .i64 ((k0 : Int) + (k : Int))] wr fun e w' => e = .returned (.string (mtF (k0 + k))) ∧ Below wr.heap.size wr w' from by
        have := markText_any (k0 + k) wr (by omega)
        rwa [Int.natCast_add] at this)
      have HC' := Lib.hid (show ∀ j (h1 : j < (cur.set k (mtF (k0 + k))).length), j < k + 1 → (cur.set k (mtF (k0 + k)))[j] = mtF (k0 + j) from fun j h1 h3 => by
        rw [List.getElem_set]
        split
        · next e => subst e; rfl
        · exact HC.out j (by simpa using h1) (by omega))
      have HCL' := Lib.hid (show (cur.set k (mtF (k0 + k))).length = l.length by rw [List.length_set]; exact HCL.out)
      have HD := Lib.hid (show ∀ w1, Below wr.heap.size wr w1 → w1.cell? ⟨g, k, none⟩ = some (.string cur[k]) ∧ w1.frozen? ⟨g, k, none⟩ = false ∧ g < w1.heap.size ∧ (w1.setCell ⟨g, k, none⟩ (.string (mtF (k0 + k)))).ownsRow base 9 1 (.slice (some ⟨g, 0, none⟩) l.length c) l.length ((cur.set k (mtF (k0 + k))).map Value.string) ∧ w.grownBy (w1.setCell ⟨g, k, none⟩ (.string (mtF (k0 + k)))) (some g) from fun w1 hb => by
        have ho1 := own_below HO.out hb (own_lt HO.out)
        have hst := ho1.stored k (.string (mtF (k0 + k)))
        rw [← List.map_set] at hst
        exact ⟨by rw [ho1.cellAt k (by omega)]; exact strs_at cur k hkc, ho1.frozenAt k, (ho1.lt _ rfl).2, hst.1, (HG.out.trans (grown_of_below hb _)).trans hst.2⟩)
      generalize mtF (k0 + k) = tx at *
      generalize cur.set k tx = cur' at *
      generalize cur[k] = yk at *
      have hk' := Lib.hid hk
      have hkl : k + 1 ≤ l.length := hlt
      clear hk hv
      go_wp2_with (go_at_call 43
                   refine HM.out.mono ?_
                   rintro e w1 ⟨rfl, hb1⟩
                   obtain ⟨d0, d1, d2, d3, d4⟩ := HD.out w1 hb1
                   have HO1 := Lib.hid d3
                   have HG1 := Lib.hid d4
                   clear hb1 d3 d4)
      go_roundg (l.length - (k + 1))
      case measure => have := hk'.out; omega
      case rel => exact ⟨k + 1, cur', by go_num, by go_num, by omega, HCL', HC', HO1, HG1⟩
    · obtain rfl : k = l.length := by omega
      have HE := Lib.hid (show cur = marksT k0 l.length from List.ext_getElem (by rw [HCL.out]; simp) fun j h1 h2 => by rw [HC.out j h1 (by rw [← HCL.out]; exact h1)]; exact (marksT_get k0 l.length j h2).symm)
      go_wp2
      go_ret
      exact ⟨rfl, by rw [← HE.out]; exact HO.out, HG.out⟩
theorem heldT_any (A : Option Addr) (c n k0 : Nat) (w : World) (hs : Sees w w.heap.size 1 A n ((marksT k0 n).map Value.string)) (hn : n ≤ 1048576) (h1 : k0 ≤ 1048576) :
    Calls Try.prog 36 #[.slice A n c, .int .i64 k0] w fun e w' => e = .returned (.int .i64 ((k0 : Int) + (n : Int))) ∧ Below w.heap.size w w' := by
  have h := heldStringS_any A c (marksT k0 n) k0 w (by rw [marksT_length]; exact hs) (by rw [marksT_length]) (by rw [marksT_length]; exact hn) h1
  rw [marksT_length] at h
  exact h
end Go.Proofs.Ytibdaodneipmjaa
