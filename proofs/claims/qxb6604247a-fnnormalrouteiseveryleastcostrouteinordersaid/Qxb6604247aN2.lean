import Derived.Test.Qxb6604247aN1
namespace Go.Proofs.Qxb6604247a
open Go.RowKit
set_option linter.unusedVariables false
set_option linter.unusedSimpArgs false

theorem Try.info35 : (Try.prog.info? 35).map (fun i => (i.zero, i.size, i.bytes)) = some (some (.agg #[.string { data := #[] }, .int .u32 0, .bool false, .int .i64 0, .int .i64 0]), 5, 40) := by kernel_rfl
def blank5 (n : Nat) : Array Value := madeCells #[Value.string { data := #[] }, .int .u32 0, .bool false, .int .i64 0, .int .i64 0] (n * 5)
theorem blank5_size (n : Nat) : (blank5 n).size = 5 * n := by simp [blank5, size_madeCells]; omega

theorem mk25 (n : Nat) (hn : n ≤ 1048576) (w : World) : (Instr.makeSlice 25 (.int .i64 (n : Int)) (.int .i64 (n : Int))).run Try.prog w = .ok (.slice (some ⟨w.heap.size, 0, none⟩) n n) (w.alloc (.cells (blank5 n) 35)) := by
  obtain ⟨i0, hi, hz0, hz1, hz2⟩ := info_parts Try.info35
  rw [run_make w 25 35 i0 _ Try.underlying25 hi hz0 .i64 .i64 n n (by omega) (by omega) (by rw [hz2]; omega) (by omega)]
  simp only [Int.toNat_natCast, hz1]
  rfl

/-- The first k routes: route j over linkset j of block gL, at cost zs[j]. -/
def CRow (w : World) (gR gL n k : Nat) (zs : List Int) : Prop :=
  ∃ cur, w.heap[gR]? = some (.cells cur 31 (0, 0)) ∧ cur.size = 2 * n ∧ ∀ (j : Nat) (z : Int), j < k → zs[j]? = some z → cur[j * 2]? = some (.pointer (some ⟨gL, j * 5, none⟩)) ∧ cur[j * 2 + 1]? = some (.int .i64 z)
theorem CRow.lt {w : World} {gR gL n k : Nat} {zs : List Int} (h : CRow w gR gL n k zs) : gR < w.heap.size := by obtain ⟨cur, h1, _⟩ := h; exact lt_of_blk h1
theorem CRow.keep {w w' : World} {gR gL n k : Nat} {zs : List Int} (h : CRow w gR gL n k zs) (e : w'.heap[gR]? = w.heap[gR]?) : CRow w' gR gL n k zs := by
  obtain ⟨cur, h1, h2⟩ := h; exact ⟨cur, e.trans h1, h2⟩
theorem CRow.cells {w : World} {gR gL n k : Nat} {zs : List Int} (h : CRow w gR gL n k zs) {j : Nat} {z : Int} (hj : j < k) (hz : zs[j]? = some z) : w.cell? ⟨gR, j * 2, none⟩ = some (.pointer (some ⟨gL, j * 5, none⟩)) ∧ w.cell? ⟨gR, j * 2 + 1, none⟩ = some (.int .i64 z) := by
  obtain ⟨cur, h1, _, h3⟩ := h
  rw [cell_of_block h1, cell_of_block h1]; exact h3 j z hj hz
theorem CRow.push {w : World} {gR gL n k : Nat} {zs : List Int} (h : CRow w gR gL n k zs) (hkn : k < n) {z : Int} (hz : zs[k]? = some z) : CRow ((w.setCell ⟨gR, k * 2, none⟩ (.pointer (some ⟨gL, k * 5, none⟩))).setCell ⟨gR, k * 2 + 1, none⟩ (.int .i64 z)) gR gL n (k + 1) zs := by
  obtain ⟨cur, h1, h2, h3⟩ := h
  refine ⟨_, block_setCell (block_setCell h1 _ _) _ _, by simp [h2], fun j x hj hx => ?_⟩
  by_cases hjk : j = k
  · subst hjk
    rw [hz] at hx; cases hx
    refine ⟨?_, ?_⟩
    · rw [Array.getElem?_setIfInBounds, if_neg (by omega), Array.getElem?_setIfInBounds, if_pos rfl, if_pos (by omega)]
    · rw [Array.getElem?_setIfInBounds, if_pos rfl, if_pos (by simp; omega)]
  · obtain ⟨e1, e2⟩ := h3 j x (by omega) hx
    refine ⟨?_, ?_⟩
    · rw [Array.getElem?_setIfInBounds, if_neg (by omega), Array.getElem?_setIfInBounds, if_neg (by omega)]; exact e1
    · rw [Array.getElem?_setIfInBounds, if_neg (by omega), Array.getElem?_setIfInBounds, if_neg (by omega)]; exact e2

/-- A block of n linksets. -/
def LRow (w : World) (gL n : Nat) : Prop := ∃ cur, w.heap[gL]? = some (.cells cur 35 (0, 0)) ∧ cur.size = 5 * n
theorem LRow.set {w : World} {gL n : Nat} (h : LRow w gL n) (o : Nat) (v : Value) : LRow (w.setCell ⟨gL, o, none⟩ v) gL n := by
  obtain ⟨cur, h1, h2⟩ := h; exact ⟨_, block_setCell h1 _ _, by simpa using h2⟩
theorem LRow.keep {w w' : World} {gL n : Nat} (h : LRow w gL n) (e : w'.heap[gL]? = w.heap[gL]?) : LRow w' gL n := by
  obtain ⟨cur, h1, h2⟩ := h; exact ⟨cur, e.trans h1, h2⟩

/-- What 'zzRoutesFromCosts' hands back. -/
def FromR (n : Nat) (zs : List Int) (g0 : Nat) (e : Ending) (w' : World) : Prop :=
  ∃ aR aL, e = .returned (.tuple #[.slice aR n n, .slice aL n n]) ∧ (n = 0 ∨ (aR = some ⟨g0 + 1, 0, none⟩ ∧ aL = some ⟨g0, 0, none⟩ ∧ CRow w' (g0 + 1) g0 n n zs))

set_option maxHeartbeats 2000000 in
theorem routesFrom_any (a : Option Addr) (n cap : Nat) (zs : List Int) (w : World) (Hn : Hid (zs.length = n)) (hr : NReads w a zs) (hn : n ≤ 131072) (h0 : a = none → n = 0) :
    Calls Try.prog 8 #[.slice a n cap] w fun e w' => FromR n zs w.heap.size e w' ∧ Below w.heap.size w w' := by
  have hmk := mk24 n (by omega)
  have hmkL := mk25 n (by omega)
  have hel := eqlNil 22 3 Try.underlying22
  cases a with
  | none =>
    obtain rfl := h0 rfl
    clear hmk hmkL hr
    go_enter Try.func8, Try.ntmps8
    go_wp2_with fail
    go_ret2
    exact ⟨⟨none, none, rfl, Or.inl rfl⟩, Below.refl _ _⟩
  | some x =>
    clear h0
    have HR : Hid (NReads w (some x) zs) := hr
    clear hr
    go_enter Try.func8, Try.ntmps8
    go_wp2_with fail
    clear hmk hmkL hel
    go_loopw [6] (fun i wr => ∃ (k : Nat), k ≤ n ∧ i = .int .i64 k ∧ CRow wr (w.heap.size + 1) w.heap.size n k zs ∧ LRow wr w.heap.size n ∧ Below w.heap.size w wr) (fun i _ => n - (intOf i).toNat)
    case atStart =>
      refine ⟨0, Nat.zero_le _, rfl, ⟨blank2 n, ?_, blank2_size n, fun j z h => by omega⟩, ⟨blank5 n, ?_, blank5_size n⟩, ((Below.refl _ _).alloc (Nat.le_refl _) _).alloc (by simp) _⟩
      · have := heap_alloc_new (w.alloc (.cells (blank5 n) 35)) (.cells (blank2 n) 31)
        simpa using this
      · rw [Below.heap_alloc _ _ _ (by simp)]; exact heap_alloc_new w _
    case round =>
      obtain ⟨k, hk, rfl, hrow, hL, hbel⟩ := hrel
      by_cases hlt : k < n
      · obtain ⟨g, off, z, hx, hg, hz, hcell⟩ := (HR.out.below hbel).at (k := k) (by rw [Hn.out]; exact hlt)
        cases hx
        have hgw : g < w.heap.size := by
          obtain ⟨g1, off1, _, hx1, hg1, _⟩ := HR.out.at (k := k) (by rw [Hn.out]; exact hlt)
          cases hx1; exact hg1
        have HZ : Hid (zs[k]? = some z) := hz
        have HRo : Hid (CRow wr (w.heap.size + 1) w.heap.size n k zs) := hrow
        have HL : Hid (LRow wr w.heap.size n) := hL
        have HBe : Hid (Below w.heap.size w wr) := hbel
        obtain ⟨cur, hcur, hcs, _⟩ := hrow
        obtain ⟨curL, hcurL, hcsL⟩ := hL
        have f0 := free_of_block hcur (k * 2)
        have f1 := free_of_block hcur (k * 2 + 1)
        have fL := free_of_block hcurL (k * 5 + 3)
        obtain ⟨v0, c0⟩ := cell_at_block hcur (k * 2) (by omega)
        obtain ⟨v1, c1⟩ := cell_at_block hcur (k * 2 + 1) (by omega)
        obtain ⟨vL, cL⟩ := cell_at_block hcurL (k * 5 + 3) (by omega)
        have hne1 : ¬ g = w.heap.size := by omega
        have hne2 : ¬ g = w.heap.size + 1 := by omega
        have hk0 : (0 : Int) ≤ (k : Int) := by omega
        have hk1 : (k : Int) < (n : Int) := by omega
        clear hz hcur hcs hcurL hcsL hbel
        go_wp2_with fail
        go_region
        go_wp2_with fail
        go_roundw
        case rel =>
          have h1 : CRow (wr.setCell ⟨w.heap.size, k * 5 + 3, none⟩ (.int .i64 (k : Nat))) (w.heap.size + 1) w.heap.size n k zs := HRo.out.keep (Below.heap_setCell _ _ _ _ (by simp))
          have h2 := h1.push hlt HZ.out
          have h3 := HL.out.set (k * 5 + 3) (.int .i64 (k : Nat))
          refine ⟨k + 1, by omega, by go_num, h2.keep rfl, ?_, ?_⟩
          · refine h3.keep ?_
            show ((((wr.setCell _ _).setCell _ _).setCell _ _).drew).heap[_]? = _
            exact (Below.heap_setCell _ _ _ _ (by simp)).trans (Below.heap_setCell _ _ _ _ (by simp))
          · exact (((HBe.out.setCell (by simp) _).setCell (by simp) _).setCell (by simp) _).drew
        case measure => simp [intOf]; omega
      · have hkn : k = n := by omega
        subst hkn
        go_wp2_with fail
        go_ret2
        exact ⟨⟨_, _, rfl, Or.inr ⟨rfl, rfl, hrow⟩⟩, hbel⟩

end Go.Proofs.Qxb6604247a
