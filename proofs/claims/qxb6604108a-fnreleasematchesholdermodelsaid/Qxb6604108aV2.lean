import Derived.Test.Qxb6604108aV1
import Derived.Test.Qxb6604108aW6
namespace Go.Proofs.Qxb6604108a
open Go.RowKit
set_option linter.unusedVariables false
set_option linter.unusedSimpArgs false

theorem Try.info31 : (Try.prog.info? 31).map (fun i => (i.zero, i.size, i.bytes)) = some (some (.slice none 0 0), 1, 24) := by kernel_rfl

/-- n cells of one value. -/
def repl (n : Nat) (v : Value) : Array Value := (List.replicate n v).toArray
theorem repl_size (n : Nat) (v : Value) : (repl n v).size = n := by simp [repl]
theorem madeOne (v : Value) (n : Nat) : madeCells #[v] (n * 1) = repl n v := by
  apply Array.ext
  · simp [size_madeCells, repl]
  · intro i h1 h2
    simp [madeCells, repl, Nat.mod_one]

theorem mk22 (n : Nat) (hn : n ≤ 4096) (w : World) : (Instr.makeSlice 22 (.int .i64 (n : Int)) (.int .i64 (n : Int))).run Try.prog w = .ok (.slice (some ⟨w.heap.size, 0, none⟩) n n) (w.alloc (.cells (repl n (.slice none 0 0)) 31)) := by
  obtain ⟨i0, hi, hz0, hz1, hz2⟩ := info_parts Try.info31
  rw [run_make w 22 31 i0 _ Try.underlying22 hi hz0 .i64 .i64 n n (by omega) (by omega) (by rw [hz2]; omega) (by omega)]
  simp only [Int.toNat_natCast, hz1]
  rw [← madeOne]; rfl

theorem mk28 (n : Nat) (hn : n ≤ 4096) (w : World) : (Instr.makeSlice 28 (.int .i64 (n : Int)) (.int .i64 (n : Int))).run Try.prog w = .ok (.slice (some ⟨w.heap.size, 0, none⟩) n n) (w.alloc (.cells (repl n (.pointer none)) 29)) := by
  obtain ⟨i0, hi, hz0, hz1, hz2⟩ := info_parts Try.info29
  rw [run_make w 28 29 i0 _ Try.underlying28 hi hz0 .i64 .i64 n n (by omega) (by omega) (by rw [hz2]; omega) (by omega)]
  simp only [Int.toNat_natCast, hz1]
  rw [← madeOne]; rfl

/-- What 'copyLists' hands back. -/
def CopyL (n : Nat) (ls : List (List Key)) (e : Ending) (w' : World) : Prop := ∃ a' cap', e = .returned (.slice a' n cap') ∧ LReads w' a' ls ∧ (a' = none → n = 0)

set_option maxHeartbeats 1000000 in
theorem copyLists_any (a : Option Addr) (n cap : Nat) (ls : List (List Key)) (w : World) (Hn : Hid (ls.length = n)) (hr : LReads w a ls) (hn : n ≤ 4096) (hl : ∀ l ∈ ls, l.length ≤ 65536) (h0 : a = none → n = 0) :
    Calls Try.prog 9 #[.slice a n cap] w fun e w' => CopyL n ls e w' ∧ Below w.heap.size w w' := by
  have hmk := mk22 n hn
  have hel := eqlNil 22 31 Try.underlying22
  have HLl : Hid (∀ l ∈ ls, l.length ≤ 65536) := hl
  clear hl
  cases a with
  | none =>
    obtain rfl := h0 rfl
    have hk : Hid (ls = []) := List.eq_nil_of_length_eq_zero Hn.out
    clear hmk hr
    go_enter Try.func9, Try.ntmps9
    go_wp2_with fail
    go_ret
    exact ⟨⟨none, 0, rfl, by rw [hk.out]; exact fun i hi => by simp at hi, fun _ => rfl⟩, Below.refl _ _⟩
  | some x =>
    clear h0
    go_enter Try.func9, Try.ntmps9
    go_wp2_with fail
    go_loopw [4] (fun i wr => ∃ k : Nat, k ≤ n ∧ i = .int .i64 k ∧ w.heap.size + 1 ≤ wr.heap.size ∧ (∃ cur, wr.heap[w.heap.size]? = some (.cells cur 31 (0, 0)) ∧ cur.size = n ∧ ∀ (j : Nat) (l : List Key), ls[j]? = some l → j < k → ∃ a' cap', cur[j]? = some (.slice a' l.length cap') ∧ wr.ownsRow (w.heap.size + 1) 41 3 (.slice a' l.length cap') l.length (flat l)) ∧ Below w.heap.size w wr)
      (fun i _ => n - (intOf i).toNat)
    case atStart => exact ⟨0, Nat.zero_le _, rfl, by simp, ⟨_, heap_alloc_new w _, repl_size _ _, fun j l _ h => by omega⟩, (Below.refl _ _).alloc (Nat.le_refl _) _⟩
    case round =>
      obtain ⟨k, hk, rfl, hsz, ⟨cur, hrow, hcs, hcur⟩, hbel⟩ := hrel
      by_cases hlt : k < n
      · obtain ⟨g, off, l, a', cap', hx, hg, hl, hc, hrd, hnil, hmx⟩ := hr.at (k := k) (by rw [Hn.out]; exact hlt)
        cases hx
        have hc1 : wr.cell? ⟨g, off + k, none⟩ = some (.slice a' l.length cap') := (hbel.cell hg).trans hc
        have hll : l.length ≤ 1048576 := by have := HLl.out l (List.mem_of_getElem? hl); omega
        have HCK := Hid.mk (copyKeys_any a' l.length cap' l wr rfl (hrd.below hbel) hll hnil)
        obtain ⟨v0, c0⟩ := cell_at_block hrow k (by omega)
        have f0 := free_of_block hrow k
        have hlts : w.heap.size < wr.heap.size := hsz
        have HCur : Hid (∀ (j : Nat) (l : List Key), ls[j]? = some l → j < k → ∃ a' cap', cur[j]? = some (.slice a' l.length cap') ∧ wr.ownsRow (w.heap.size + 1) 41 3 (.slice a' l.length cap') l.length (flat l)) := hcur
        have HRow : Hid (wr.heap[w.heap.size]? = some (.cells cur 31 (0, 0))) := hrow
        have HL : Hid (ls[k]? = some l) := hl
        have HCS : Hid (cur.size = n) := hcs
        obtain ⟨m, hm⟩ : ∃ m, m = l.length := ⟨_, rfl⟩
        rw [← hm] at hc1 HCK
        have HM : Hid (m = l.length) := hm
        clear hr hc hrd hnil hcur hrow hmk hel hl hcs hmx hm hll
        go_wp2_with (first | (go_at_call 20; refine HCK.out.mono ?_; rintro e w1 ⟨a1, cap1, rfl, hown1, hb1⟩; have c1 := (hb1.cell (p := ⟨w.heap.size, k, none⟩) hlts).trans c0; have f1 := (hb1.frozen (p := ⟨w.heap.size, k, none⟩) hlts).trans f0))
        go_roundw
        case rel =>
          have hsz1 := hb1.size
          have hrow1 : w1.heap[w.heap.size]? = some (.cells cur 31 (0, 0)) := (hb1.block _ (by omega)).trans HRow.out
          refine ⟨k + 1, by omega, by go_num, by simp [World.setCell]; omega, ⟨cur.setIfInBounds k (.slice a1 m cap1), block_setCell hrow1 _ _, by simp [HCS.out], fun j l' hj hjk => ?_⟩, (hbel.trans (hb1.mono (by omega))).setCell (Nat.le_refl _) _⟩
          by_cases hjk' : j = k
          · subst hjk'
            rw [HL.out] at hj
            cases hj
            refine ⟨a1, cap1, by simp [Array.getElem?_setIfInBounds, HCS.out, hlt, HM.out], ?_⟩
            rw [← HM.out]
            refine ownsRow_setCell_below ?_ (by simp) _
            refine ⟨hown1.1, ?_⟩
            rcases hown1.2 with h | ⟨gg, cp, cr, h1, h2, h3⟩
            · exact Or.inl h
            · exact Or.inr ⟨gg, cp, cr, h1, by omega, h3⟩
          · obtain ⟨a2, cap2, e1, e2⟩ := HCur.out j l' hj (by omega)
            refine ⟨a2, cap2, by rw [Array.getElem?_setIfInBounds, if_neg (fun e => hjk' e.symm)]; exact e1, ?_⟩
            exact ownsRow_setCell_below (own_below e2 hb1) (by simp) _
        case measure => simp [intOf]; omega
      · have hk' : k = n := by omega
        subst hk'
        have HCur : Hid (∀ (j : Nat) (l : List Key), ls[j]? = some l → j < k → ∃ a' cap', cur[j]? = some (.slice a' l.length cap') ∧ wr.ownsRow (w.heap.size + 1) 41 3 (.slice a' l.length cap') l.length (flat l)) := hcur
        have HRow : Hid (wr.heap[w.heap.size]? = some (.cells cur 31 (0, 0))) := hrow
        clear hmk hel hr hcur hrow hcs
        go_wp2_with fail
        go_ret
        refine ⟨⟨_, k, rfl, ?_, fun h => by cases h⟩, hbel⟩
        intro i hi
        refine ⟨w.heap.size, 0, rfl, by omega, fun j l hj => ?_⟩
        have hjl : j < k := by have := (List.getElem?_eq_some_iff.1 hj).1; rw [Hn.out] at this; exact this
        obtain ⟨a2, cap2, e1, e2⟩ := HCur.out j l hj hjl
        have hlb := HLl.out l (List.mem_of_getElem? hj)
        refine ⟨a2, cap2, by rw [cell_of_block HRow.out]; simpa using e1, reads_of_own e2, fun e => ?_, by omega⟩
        subst e
        rcases e2.2 with ⟨_, h⟩ | ⟨gg, cp, cr, h1, _⟩
        · exact h
        · cases h1

end Go.Proofs.Qxb6604108a
