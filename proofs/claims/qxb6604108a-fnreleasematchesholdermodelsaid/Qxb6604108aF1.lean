import Derived.Test.Qxb6604108aL3
import Derived.Test.Qxb6604108aOpenL
import Derived.ChangeSlices
namespace Go.Proofs.Qxb6604108a
open Go.RowKit
set_option linter.unusedVariables false
set_option linter.unusedSimpArgs false

/-- What a reader of a slice of steps is told. -/
def IReads (w : World) (a : Option Addr) (ss : List Int) : Prop :=
  ∀ i, i < ss.length → ∃ g off, a = some ⟨g, off, none⟩ ∧ g < w.heap.size ∧ ∀ (j : Nat) (s : Int), ss[j]? = some s → w.cell? ⟨g, off + j, none⟩ = some (.int .i32 s) ∧ -2147483648 ≤ s ∧ s ≤ 2147483647

theorem IReads.below {w w' : World} {a : Option Addr} {ss : List Int} (h : IReads w a ss) (hb : Below w.heap.size w w') : IReads w' a ss := by
  intro i hi
  obtain ⟨g, off, ha, hg, hc⟩ := h i hi
  refine ⟨g, off, ha, Nat.lt_of_lt_of_le hg hb.size, fun j l hl => ?_⟩
  obtain ⟨h1, h2⟩ := hc j l hl
  exact ⟨(hb.cell hg).trans h1, h2⟩

theorem IReads.at {w : World} {a : Option Addr} {ss : List Int} (h : IReads w a ss) {k : Nat} (hk : k < ss.length) :
    ∃ g off s, a = some ⟨g, off, none⟩ ∧ g < w.heap.size ∧ ss[k]? = some s ∧ w.cell? ⟨g, off + k, none⟩ = some (.int .i32 s) ∧ -2147483648 ≤ s ∧ s ≤ 2147483647 := by
  obtain ⟨g, off, ha, hg, hc⟩ := h k hk
  obtain ⟨h1, h2⟩ := hc k _ (List.getElem?_eq_getElem hk)
  exact ⟨g, off, _, ha, hg, List.getElem?_eq_getElem hk, h1, h2⟩

theorem cells21 : Try.prog.cellsOf 21 = 1 := by kernel_rfl

open Go.ChangeShapes Go.WideShapes in
theorem open_steps {H : Type} {enc : TypeId × Value → H} {W : World} {base fuel : Nat} {held : Bool} {cs : List Value} {x : DataW H × List MemPlace} (h : DataW.trod enc Try.prog W base (fun _ => true) held fuel 45 cs = some x) :
    ∃ a len cap ss, cs = [.slice a len cap] ∧ len ≤ 9223372036854775807 ∧ ss.length = len ∧ IReads W a ss ∧ (a = none → len = 0) := by
  rcases open_ints Try.underlying45 Try.underlying21 cells21 h with ⟨hcs, _⟩ | ⟨a, len, cap, zs, hcs, hb, hl, hm, hz, hx, hc, hw⟩
  · exact ⟨none, 0, 0, [], hcs, by omega, rfl, fun i hi => by simp at hi, fun _ => rfl⟩
  · simp only [if_true] at hz
    refine ⟨some a, len, cap, zs.take len, hcs, by unfold maxLen at hm; omega, by simp; omega, ?_, fun h => by cases h⟩
    intro i hi
    simp at hi
    obtain ⟨b, off, spot⟩ := a
    have hspot : spot = none := by
      have := hc 0 (by omega)
      simpa [Addr.add] using World.cell?_spot this
    subst hspot
    refine ⟨b, off, rfl, World.block_lt_of_cell? W ⟨b, off, none⟩ (by have := hc 0 (by omega); simpa [Addr.add] using this), fun j s hj => ?_⟩
    have hjl : j < len := by have := (List.getElem?_eq_some_iff.1 hj).1; simp at this; omega
    have hjz : zs[j]? = some s := by rw [List.getElem?_take, if_pos hjl] at hj; exact hj
    have h1 := hc j (by omega)
    rw [Go.WideShapes.add_plain, List.getD, hjz] at h1
    have h2 := hw s (List.mem_of_getElem? hjz)
    refine ⟨h1, ?_⟩
    simp [Lit.wf] at h2
    have e1 : IntKind.i32.min = -2147483648 := by decide
    have e2 : IntKind.i32.max = 2147483647 := by decide
    omega

set_option maxHeartbeats 2000000 in
theorem bytes24_any (a : Option Addr) (n cap : Nat) (ls : List (List Key)) (a2 : Option Addr) (n2 cap2 : Nat) (w : World) (Hn : Hid (ls.length = n)) (hr : LReads w a ls) (hn : n ≤ 9223372036854775807) (hn2 : n2 ≤ 9223372036854775807) :
    Calls Try.prog 24 #[.slice a n cap, .slice a2 n2 cap2] w fun e w' => RetB e ∧ w' = w := by
  by_cases h : n ≤ 1048576
  · have h' : ¬ (1048576 : Int) < (n : Int) := by omega
    go_enter Try.func24, Try.ntmps24
    go_wp2_with fail
    go_loop [5, 6] (fun z i => ∃ k t : Nat, k ≤ n ∧ t ≤ 1048576 ∧ i = .int .i64 k ∧ z = .int .i64 t) (fun _ i => n - (intOf i).toNat)
    case atStart => exact ⟨0, n, Nat.zero_le _, h, rfl, by simp⟩
    case round =>
      obtain ⟨k, t, hk, ht, rfl, rfl⟩ := hrel
      by_cases hlt : k < n
      · obtain ⟨g, off, l, a', cap', rfl, hg, hl, hc, _, _, hmx⟩ := hr.at (k := k) (by rw [Hn.out]; exact hlt)
        generalize l.length = m at *
        by_cases hm : (1048576 : Int) < (m : Int)
        · clear hr
          go_wp2_with fail
          go_ret
          exact ⟨retB_mk _, rfl⟩
        · by_cases hs : (1048576 : Int) < (t : Int) + (m : Int)
          · clear hr
            go_wp2_with fail
            go_ret
            exact ⟨retB_mk _, rfl⟩
          · clear hr
            go_wp2_with fail
            go_round
            case rel => exact ⟨k + 1, t + m, by omega, by omega, by go_num, by go_num⟩
            case measure => simp [intOf]; omega
      · clear hr
        by_cases h2 : (1048576 : Int) < (n2 : Int)
        · go_wp2_with fail
          go_ret
          exact ⟨retB_mk _, rfl⟩
        · by_cases h3 : (1048576 : Int) < (t : Int) + (n2 : Int)
          · go_wp2_with fail
            go_ret
            exact ⟨retB_mk _, rfl⟩
          · go_wp2_with fail
            go_ret
            exact ⟨retB_mk _, rfl⟩
  · have h' : (1048576 : Int) < (n : Int) := by omega
    clear hr
    go_enter Try.func24, Try.ntmps24
    go_wp2_with fail
    go_ret
    exact ⟨retB_mk _, rfl⟩

theorem Try.info21 : (Try.prog.info? 21).map (fun i => (i.zero, i.size, i.bytes)) = some (some (.int .i32 0), 1, 4) := by kernel_rfl
theorem Try.info3 : (Try.prog.info? 3).map (fun i => (i.zero, i.size, i.bytes)) = some (some (.int .i64 0), 1, 8) := by kernel_rfl

theorem mk45 (n : Nat) (hn : n ≤ 4096) (w : World) : (Instr.makeSlice 45 (.int .i64 (n : Int)) (.int .i64 (n : Int))).run Try.prog w = .ok (.slice (some ⟨w.heap.size, 0, none⟩) n n) (w.alloc (.cells (repl n (.int .i32 0)) 21)) := by
  obtain ⟨i0, hi, hz0, hz1, hz2⟩ := info_parts Try.info21
  rw [run_make w 45 21 i0 _ Try.underlying45 hi hz0 .i64 .i64 n n (by omega) (by omega) (by rw [hz2]; omega) (by omega)]
  simp only [Int.toNat_natCast, hz1]
  rw [← madeOne]; rfl

theorem mk48cap (n : Nat) (hn : n ≤ 4096) (w : World) : (Instr.makeSlice 48 (.int .i64 0) (.int .i64 (n : Int))).run Try.prog w = .ok (.slice (some ⟨w.heap.size, 0, none⟩) 0 n) (w.alloc (.cells (repl n (.int .i64 0)) 3)) := by
  obtain ⟨i0, hi, hz0, hz1, hz2⟩ := info_parts Try.info3
  rw [run_make w 48 3 i0 _ Try.underlying48 hi hz0 .i64 .i64 0 n (by omega) (by omega) (by rw [hz2]; omega) (by omega)]
  simp only [Int.toNat_natCast, hz1]
  rw [← madeOne]; rfl

/-- What 'copyI32' hands back. -/
def CopyI (n : Nat) (ss : List Int) (e : Ending) (w' : World) : Prop := ∃ a' cap', e = .returned (.slice a' n cap') ∧ IReads w' a' ss

set_option maxHeartbeats 1000000 in
theorem copyI32_any (a : Option Addr) (n cap : Nat) (ss : List Int) (w : World) (Hn : Hid (ss.length = n)) (hr : IReads w a ss) (hn : n ≤ 4096) (h0 : a = none → n = 0) :
    Calls Try.prog 25 #[.slice a n cap] w fun e w' => CopyI n ss e w' ∧ Below w.heap.size w w' := by
  have hmk := mk45 n hn
  have hel := eqlNil 45 21 Try.underlying45
  cases a with
  | none =>
    obtain rfl := h0 rfl
    have hk : Hid (ss = []) := List.eq_nil_of_length_eq_zero Hn.out
    clear hmk hr
    go_enter Try.func25, Try.ntmps25
    go_wp2_with fail
    go_ret
    exact ⟨⟨none, 0, rfl, by rw [hk.out]; exact fun i hi => by simp at hi⟩, Below.refl _ _⟩
  | some x =>
    clear h0
    go_enter Try.func25, Try.ntmps25
    go_wp2_with fail
    go_loopw [4] (fun i wr => ∃ k : Nat, k ≤ n ∧ i = .int .i64 k ∧ (∃ cur, wr.heap[w.heap.size]? = some (.cells cur 21 (0, 0)) ∧ cur.size = n ∧ ∀ (j : Nat) (s : Int), ss[j]? = some s → j < k → cur[j]? = some (.int .i32 s)) ∧ Below w.heap.size w wr)
      (fun i _ => n - (intOf i).toNat)
    case atStart => exact ⟨0, Nat.zero_le _, rfl, ⟨_, heap_alloc_new w _, repl_size _ _, fun j l _ h => by omega⟩, (Below.refl _ _).alloc (Nat.le_refl _) _⟩
    case round =>
      obtain ⟨k, hk, rfl, ⟨cur, hrow, hcs, hcur⟩, hbel⟩ := hrel
      by_cases hlt : k < n
      · obtain ⟨g, off, s, hx, hg, hs, hc, _, _⟩ := hr.at (k := k) (by rw [Hn.out]; exact hlt)
        cases hx
        have r0 := (hbel.cell (p := ⟨g, off + k, none⟩) hg).trans hc
        have f0 := free_of_block hrow k
        obtain ⟨v0, c0⟩ := cell_at_block hrow k (by omega)
        have HS : Hid (ss[k]? = some s) := hs
        have HCur : Hid (∀ (j : Nat) (s : Int), ss[j]? = some s → j < k → cur[j]? = some (.int .i32 s)) := hcur
        clear hr hc hmk hel hs hcur
        go_wp2_with fail
        go_roundw
        case rel =>
          refine ⟨k + 1, by omega, by go_num, ⟨_, block_setCell hrow _ _, by simp [hcs], fun j s' hs' hj => ?_⟩, hbel.setCell (Nat.le_refl _) _⟩
          rw [Array.getElem?_setIfInBounds]
          by_cases hjk : k = j
          · subst hjk
            rw [if_pos rfl, if_pos (by omega)]
            rw [HS.out] at hs'; cases hs'; rfl
          · rw [if_neg hjk]
            exact HCur.out j s' hs' (by omega)
        case measure => simp [intOf]; omega
      · have hk' : k = n := by omega
        subst hk'
        have HCur : Hid (∀ (j : Nat) (s : Int), ss[j]? = some s → j < k → cur[j]? = some (.int .i32 s)) := hcur
        have HR : Hid (IReads w (some x) ss) := hr
        clear hmk hel hcur hr
        go_wp2_with fail
        go_ret
        refine ⟨⟨_, k, rfl, fun i hi => ⟨_, 0, rfl, lt_of_blk hrow, fun j s hs => ?_⟩⟩, hbel⟩
        have hjl : j < ss.length := (List.getElem?_eq_some_iff.1 hs).1
        rw [Nat.zero_add, cell_of_block hrow]
        refine ⟨HCur.out j s hs (by rw [← Hn.out]; exact hjl), ?_⟩
        obtain ⟨_, _, s', _, _, h3, _, h5⟩ := HR.out.at hjl
        rw [hs] at h3; cases h3; exact h5

/-- 'checkHandles'. -/
theorem PReads.pt {w : World} {a : Option Addr} {bs : List Nat} (h : PReads w a bs) {k : Nat} (hk : k < bs.length) : ∃ g off b, a = some ⟨g, off, none⟩ ∧ bs[k]? = some b ∧ w.cell? ⟨g, off + k, none⟩ = some (.pointer (some ⟨b, 0, none⟩)) ∧ IsBlk w b := by
  obtain ⟨g, off, ha, hg, hc⟩ := h k hk
  obtain ⟨h1, h2⟩ := hc k _ (List.getElem?_eq_getElem hk)
  exact ⟨g, off, _, ha, List.getElem?_eq_getElem hk, h1, h2⟩

theorem PReads.heap {w w' : World} {a : Option Addr} {bs : List Nat} (h : PReads w a bs) (e : w'.heap = w.heap) : PReads w' a bs := by
  have hc : ∀ x, w'.cell? x = w.cell? x := fun x => by unfold World.cell?; rw [e]
  intro i hi
  obtain ⟨g, off, ha, hg, hr⟩ := h i hi
  refine ⟨g, off, ha, by rw [e]; exact hg, fun j b hj => ?_⟩
  obtain ⟨h1, h2⟩ := hr j b hj
  refine ⟨by rw [hc]; exact h1, ?_⟩
  unfold IsBlk at *
  rw [e]; exact h2

end Go.Proofs.Qxb6604108a
