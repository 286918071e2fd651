import Derived.Test.Qxb6604108aRow
namespace Go.Proofs.Qxb6604108a
open Go.RowKit

theorem Try.info41 : (Try.prog.info? 41).map (fun i => (i.zero, i.size, i.bytes)) = some (some (.agg #[.int .u64 0, .int .u64 0, .int .u64 0]), 3, 24) := by kernel_rfl

theorem made3 (n : Nat) : madeCells #[Value.int .u64 0, .int .u64 0, .int .u64 0] (n * 3) = (List.replicate (n * 3) (Value.int .u64 0)).toArray := by
  apply Array.ext
  · simp [size_madeCells]
  · intro i h1 h2
    have : i % 3 = 0 ∨ i % 3 = 1 ∨ i % 3 = 2 := by omega
    rcases this with h | h | h <;> simp [madeCells, h]

/-- 'make([][3]uint64, n)'. -/
theorem mk41 (ks : List Key) (n : Nat) (hn : n ≤ 1048576) (w : World) : (Instr.makeSlice 31 (.int .i64 (n : Int)) (.int .i64 (n : Int))).run Try.prog w = .ok (.slice (some ⟨w.heap.size, 0, none⟩) n n) (w.alloc (.cells (rowK ks 0 n) 41)) := by
  obtain ⟨i0, hi, hz0, hz1, hz2⟩ := info_parts Try.info41
  rw [run_make w 31 41 i0 _ Try.underlying31 hi hz0 .i64 .i64 n n (by omega) (by omega) (by rw [hz2]; omega) (by omega)]
  simp only [Int.toNat_natCast, hz1]
  have : rowK ks 0 n = madeCells #[Value.int .u64 0, .int .u64 0, .int .u64 0] (n * 3) := by rw [made3]; simp [rowK, flat]
  rw [this]; rfl

theorem eqlNil (t : TypeId) (e : TypeId) (ht : Try.prog.underlying t = some (.slice e)) (w : World) (a : Option Addr) (l c : Nat) : (binOp .eql t (.slice a l c) (.slice none 0 0)).run Try.prog w = .ok (.bool a.isNone) w := Lib.run_eql_slice_nil w t e a l c 0 0 ht

set_option maxHeartbeats 400000 in
theorem copyKeys_any (a : Option Addr) (n cap : Nat) (ks : List Key) (w : World) (Hn : Hid (ks.length = n)) (hr : Reads w a ks) (hn : n ≤ 1048576) (h0 : a = none → n = 0) :
    Calls Try.prog 20 #[.slice a n cap] w fun e w' => ∃ a' cap', e = .returned (.slice a' n cap') ∧ w'.ownsRow w.heap.size 41 3 (.slice a' n cap') n (flat ks) ∧ Below w.heap.size w w' := by
  have hmk := mk41 ks n hn
  have hel := eqlNil 31 41 Try.underlying31
  cases a with
  | none =>
    obtain rfl := h0 rfl
    have hk : Hid (ks = []) := List.eq_nil_of_length_eq_zero Hn.out
    clear hmk
    go_enter Try.func20, Try.ntmps20
    go_wp2
    go_ret
    exact ⟨none, 0, rfl, by rw [hk.out]; exact World.ownsRow_nil _ _ _ _, Below.refl _ _⟩
  | some x =>
    clear h0
    go_enter Try.func20, Try.ntmps20
    go_wp2
    go_loopw [4] (fun i wr => ∃ k : Nat, k ≤ n ∧ i = .int .i64 k ∧ wr.heap[w.heap.size]? = some (.cells (rowK ks k n) 41 (0, 0)) ∧ Below w.heap.size w wr) (fun i _ => n - (intOf i).toNat)
    case atStart => exact ⟨0, Nat.zero_le _, rfl, heap_alloc_new w _, (Below.refl _ _).alloc (Nat.le_refl _) _⟩
    case round =>
      obtain ⟨k, hk, rfl, hrow, hbel⟩ := hrel
      by_cases hlt : k < n
      · have hks := Hn.out
        obtain ⟨b, o, hx, hb, hc⟩ := hr k (by omega)
        cases hx
        obtain ⟨a0, a1, a2⟩ := hc k (by omega)
        have r0 := (hbel.cell (p := ⟨b, o + k * 3, none⟩) hb).trans a0
        have r1 := (hbel.cell (p := ⟨b, o + k * 3 + 1, none⟩) hb).trans a1
        have r2 := (hbel.cell (p := ⟨b, o + k * 3 + 2, none⟩) hb).trans a2
        have hsz := rowK_size ks k n hk hks.symm
        have f0 := free_of_block hrow (k * 3)
        have f1 := free_of_block hrow (k * 3 + 1)
        have f2 := free_of_block hrow (k * 3 + 2)
        obtain ⟨v0, c0⟩ := cell_at_block hrow (k * 3) (by omega)
        obtain ⟨v1, c1⟩ := cell_at_block hrow (k * 3 + 1) (by omega)
        obtain ⟨v2, c2⟩ := cell_at_block hrow (k * 3 + 2) (by omega)
        clear hr hc a0 a1 a2 hks hsz hmk hel
        go_wp2
        go_roundw
        case rel =>
          refine ⟨k + 1, by omega, by go_num, ?_, ((hbel.setCell (Nat.le_refl _) _).setCell (Nat.le_refl _) _).setCell (Nat.le_refl _) _⟩
          rw [block_setCell (block_setCell (block_setCell hrow _ _) _ _) _ _, rowK_step ks k n hlt Hn.out.symm]
        case measure => simp [intOf]; omega
      · have hk' : k = n := by omega
        subst hk'
        clear hmk hel
        go_wp2
        go_ret
        refine ⟨_, k, rfl, ?_, hbel⟩
        rw [rowK_full ks k Hn.out.symm] at hrow
        have hks := Hn.out
        refine ⟨by rw [flat_length, hks], Or.inr ⟨w.heap.size, k, _, rfl, Nat.le_refl _, hrow, Nat.le_refl _, by unfold maxLen; omega, by simp [flat_length, hks], ?_⟩⟩
        exact List.take_of_length_le (by simp [flat_length, hks])

end Go.Proofs.Qxb6604108a
