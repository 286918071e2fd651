import Derived.Test.Qxb6604247aC1
import Derived.LaidEqlPtr
import Derived.Below
namespace Go.Proofs.Qxb6604247a
open Go.RowKit
set_option linter.unusedVariables false
set_option linter.unusedSimpArgs false

/-! ### A block that is known whole -/
theorem cell_of_block {w : World} {g : Nat} {cur : Array Value} {e : TypeId} {fr : Nat × Nat} (h : w.heap[g]? = some (.cells cur e fr)) (o : Nat) : w.cell? ⟨g, o, none⟩ = cur[o]? := by
  simp [World.cell?, h]
theorem cell_at_block {w : World} {g : Nat} {cur : Array Value} {e : TypeId} {fr : Nat × Nat} (h : w.heap[g]? = some (.cells cur e fr)) (o : Nat) (ho : o < cur.size) : ∃ v, w.cell? ⟨g, o, none⟩ = some v := by
  rw [cell_of_block h, Array.getElem?_eq_getElem ho]; exact ⟨_, rfl⟩
theorem free_of_block {w : World} {g : Nat} {cur : Array Value} {e : TypeId} (h : w.heap[g]? = some (.cells cur e (0, 0))) (o : Nat) : w.frozen? ⟨g, o, none⟩ = false := by
  simp [World.frozen?, h]
theorem block_setCell {w : World} {g : Nat} {cur : Array Value} {e : TypeId} {fr : Nat × Nat} (h : w.heap[g]? = some (.cells cur e fr)) (o : Nat) (v : Value) : (w.setCell ⟨g, o, none⟩ v).heap[g]? = some (.cells (cur.setIfInBounds o v) e fr) := by
  simp [World.setCell, Array.getElem?_modify, h]
theorem lt_of_blk {w : World} {g : Nat} {o : Obj} (h : w.heap[g]? = some o) : g < w.heap.size := (Array.getElem?_eq_some_iff.1 h).1

/-! ### What is read of a slice of numbers -/
def NReads (w : World) (a : Option Addr) (zs : List Int) : Prop :=
  ∀ i, i < zs.length → ∃ g off, a = some ⟨g, off, none⟩ ∧ g < w.heap.size ∧ ∀ (j : Nat) (z : Int), zs[j]? = some z → w.cell? ⟨g, off + j, none⟩ = some (.int .i64 z)

theorem NReads.below {w w' : World} {a : Option Addr} {zs : List Int} (h : NReads w a zs) (hb : Below w.heap.size w w') : NReads w' a zs := by
  intro i hi
  obtain ⟨g, off, ha, hg, hc⟩ := h i hi
  exact ⟨g, off, ha, Nat.lt_of_lt_of_le hg hb.size, fun j z hz => (hb.cell hg).trans (hc j z hz)⟩
theorem NReads.at {w : World} {a : Option Addr} {zs : List Int} (h : NReads w a zs) {k : Nat} (hk : k < zs.length) : ∃ g off z, a = some ⟨g, off, none⟩ ∧ g < w.heap.size ∧ zs[k]? = some z ∧ w.cell? ⟨g, off + k, none⟩ = some (.int .i64 z) := by
  obtain ⟨g, off, ha, hg, hc⟩ := h k hk
  exact ⟨g, off, _, ha, hg, List.getElem?_eq_getElem hk, hc k _ (List.getElem?_eq_getElem hk)⟩

/-! ### A block, and '==' on two pointers to linksets -/
def IsBlk (w : World) (b : Nat) : Prop := ∃ cur t, w.heap[b]? = some (.cells cur t (0, 0))
theorem IsBlk.lt {w : World} {b : Nat} (h : IsBlk w b) : b < w.heap.size := by obtain ⟨_, _, h⟩ := h; exact lt_of_blk h
theorem IsBlk.below {w w' : World} {b : Nat} (h : IsBlk w b) (hb : Below w.heap.size w w') : IsBlk w' b := by
  obtain ⟨c, t, e⟩ := h; exact ⟨c, t, (hb.block b (lt_of_blk e)).trans e⟩
theorem IsBlk.setCell {w : World} {b : Nat} (h : IsBlk w b) (p : Addr) (v : Value) : IsBlk (w.setCell p v) b := by
  obtain ⟨cur, t, h⟩ := h
  by_cases hb : p.block = b
  · subst hb
    refine ⟨if p.spot.isSome then cur else cur.setIfInBounds p.off v, t, ?_⟩
    simp [World.setCell, Array.getElem?_modify, h]
  · exact ⟨cur, t, by rw [Below.heap_setCell _ _ _ _ (fun e => hb e.symm)]; exact h⟩

theorem Try.size35 : ∃ j, Try.prog.info? 35 = some j ∧ j.size ≠ 0 := by
  have h : (Try.prog.info? 35).map (·.size) = some 5 := by kernel_rfl
  cases hi : Try.prog.info? 35 with
  | none => rw [hi] at h; cases h
  | some j => rw [hi] at h; simp at h; exact ⟨j, rfl, by omega⟩

theorem eqlPtr {w : World} {b1 b2 : Nat} (h1 : IsBlk w b1) (h2 : IsBlk w b2) : (binOp .eql 29 (.pointer (some ⟨b1, 0, none⟩)) (.pointer (some ⟨b2, 0, none⟩))).run Try.prog w = .ok (.bool (b1 == b2)) w := by
  obtain ⟨c1, t1, e1⟩ := h1
  obtain ⟨c2, t2, e2⟩ := h2
  obtain ⟨j, hj, hs⟩ := Try.size35
  by_cases h : b1 = b2
  · subst h
    rw [run_eql_ptr_same w _ Try.underlying29 hj]; simp
  · rw [run_eql_ptr_other w Try.underlying29 hj hs (by simp [h]) e1 e2]; simp [h]

theorem neqPtr_same (w : World) (a : Addr) : (binOp .neq 29 (.pointer (some a)) (.pointer (some a))).run Try.prog w = .ok (.bool false) w := by
  obtain ⟨j, hj, hs⟩ := Try.size35
  have h : ∀ d : Nat, (Op.equalIn (d + 1) 29 (.pointer (some a)) (.pointer (some a))).run Try.prog w = .ok true w := fun d => by
    simp [Op.equalIn, run_underlying Try.underlying29, sizeOf, typeInfo, hj, run_sameAddr_same]
  simp only [binOp]
  simp [Op.equal, Op.maxDepth, h 9999]

/-! ### zzBytes -/
/-- It returns a bool, whichever. -/
def RetB (e : Ending) : Prop := ∃ r, e = .returned (.bool r)
theorem retB_mk (r : Bool) : RetB (.returned (.bool r)) := ⟨r, rfl⟩

theorem bytes7_any (a : Option Addr) (n cap : Nat) (w : World) (hn : n ≤ 9223372036854775807) : Calls Try.prog 7 #[.slice a n cap] w fun e w' => RetB e ∧ w' = w := by
  by_cases h : (1048576 : Int) < (n : Int)
  · go_enter Try.func7, Try.ntmps7
    go_wp2_with fail
    go_ret
    exact ⟨retB_mk _, rfl⟩
  · go_enter Try.func7, Try.ntmps7
    go_wp2_with fail
    go_ret
    exact ⟨retB_mk _, rfl⟩
theorem bytes10_any (a : Option Addr) (n cap : Nat) (x : Int) (w : World) (hn : n ≤ 9223372036854775807) : Calls Try.prog 10 #[.slice a n cap, .int .i64 x] w fun e w' => RetB e ∧ w' = w := by
  by_cases h : (1048576 : Int) < (n : Int)
  · go_enter Try.func10, Try.ntmps10
    go_wp2_with fail
    go_ret
    exact ⟨retB_mk _, rfl⟩
  · go_enter Try.func10, Try.ntmps10
    go_wp2_with fail
    go_ret
    exact ⟨retB_mk _, rfl⟩
theorem bytes14_any (a : Option Addr) (n cap : Nat) (w : World) (hn : n ≤ 9223372036854775807) : Calls Try.prog 14 #[.slice a n cap] w fun e w' => RetB e ∧ w' = w := by
  by_cases h : (1048576 : Int) < (n : Int)
  · go_enter Try.func14, Try.ntmps14
    go_wp2_with fail
    go_ret
    exact ⟨retB_mk _, rfl⟩
  · go_enter Try.func14, Try.ntmps14
    go_wp2_with fail
    go_ret
    exact ⟨retB_mk _, rfl⟩

/-! ### The routes -/
/-- The routes in their row: route j over the linkset of block bs[j]. -/
def RRow (w : World) (g n : Nat) (bs : List Nat) : Prop :=
  ∃ cur, w.heap[g]? = some (.cells cur 31 (0, 0)) ∧ cur.size = 2 * n ∧ ∀ (j b : Nat), bs[j]? = some b → cur[j * 2]? = some (.pointer (some ⟨b, 0, none⟩)) ∧ cur[j * 2 + 1]? = some (.int .i64 (j : Nat))

theorem RRow.keep {w w' : World} {g n : Nat} {bs : List Nat} (h : RRow w g n bs) (e : w'.heap[g]? = w.heap[g]?) : RRow w' g n bs := by
  obtain ⟨cur, h1, h2⟩ := h; exact ⟨cur, e.trans h1, h2⟩
theorem RRow.lt {w : World} {g n : Nat} {bs : List Nat} (h : RRow w g n bs) : g < w.heap.size := by obtain ⟨cur, h1, _⟩ := h; exact lt_of_blk h1
theorem RRow.cells {w : World} {g n : Nat} {bs : List Nat} (h : RRow w g n bs) {j b : Nat} (hb : bs[j]? = some b) : w.cell? ⟨g, j * 2, none⟩ = some (.pointer (some ⟨b, 0, none⟩)) ∧ w.cell? ⟨g, j * 2 + 1, none⟩ = some (.int .i64 (j : Nat)) := by
  obtain ⟨cur, h1, _, h3⟩ := h
  rw [cell_of_block h1, cell_of_block h1]; exact h3 j b hb
theorem RRow.push {w : World} {g n k : Nat} {bs : List Nat} (h : RRow w g n bs) (hk : bs.length = k) (hkn : k < n) (b : Nat) : RRow ((w.setCell ⟨g, k * 2, none⟩ (.pointer (some ⟨b, 0, none⟩))).setCell ⟨g, k * 2 + 1, none⟩ (.int .i64 (k : Nat))) g n (bs ++ [b]) := by
  obtain ⟨cur, h1, h2, h3⟩ := h
  refine ⟨_, block_setCell (block_setCell h1 _ _) _ _, by simp [h2], fun j x hx => ?_⟩
  by_cases hj : j < bs.length
  · rw [List.getElem?_append_left hj] at hx
    obtain ⟨e1, e2⟩ := h3 j x hx
    refine ⟨?_, ?_⟩
    · rw [Array.getElem?_setIfInBounds, if_neg (by omega), Array.getElem?_setIfInBounds, if_neg (by omega)]; exact e1
    · rw [Array.getElem?_setIfInBounds, if_neg (by omega), Array.getElem?_setIfInBounds, if_neg (by omega)]; exact e2
  · rw [List.getElem?_append_right (by omega)] at hx
    have hj0 : j = k := by
      rcases Nat.eq_or_lt_of_le (Nat.le_of_not_lt hj) with h | h
      · omega
      · obtain ⟨q, hq⟩ : ∃ q, j - bs.length = q + 1 := ⟨j - bs.length - 1, by omega⟩
        rw [hq] at hx; simp at hx
    subst hj0
    simp [hk] at hx; subst hx
    refine ⟨?_, ?_⟩
    · rw [Array.getElem?_setIfInBounds, if_neg (by omega), Array.getElem?_setIfInBounds, if_pos rfl, if_pos (by omega)]
    · rw [Array.getElem?_setIfInBounds, if_pos rfl, if_pos (by simp; omega)]

/-- Equal names, one linkset; other names, other linksets. -/
def Links (zs : List Int) (bs : List Nat) : Prop := ∀ (i j : Nat) (x y : Int) (b c : Nat), zs[i]? = some x → zs[j]? = some y → bs[i]? = some b → bs[j]? = some c → (x = y ↔ b = c)

end Go.Proofs.Qxb6604247a
