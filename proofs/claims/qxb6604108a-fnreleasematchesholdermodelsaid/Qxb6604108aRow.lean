import Derived.Test.Qxb6604108aArr
namespace Go.Proofs.Qxb6604108a
open Go.RowKit

/-! ### Lists of keys and their cells -/
theorem flat_length (ks : List Key) : (flat ks).length = ks.length * 3 := by
  induction ks with
  | nil => rfl
  | cons k r ih => simp [flat, ih]; omega
theorem flat_append (a b : List Key) : flat (a ++ b) = flat a ++ flat b := by
  induction a with
  | nil => rfl
  | cons k r ih => simp [flat, ih]
theorem flat_getElem? : ∀ (ks : List Key) (j : Nat), j < ks.length → (flat ks)[j * 3]? = some (.int .u64 (kAt ks j).1) ∧ (flat ks)[j * 3 + 1]? = some (.int .u64 (kAt ks j).2.1) ∧ (flat ks)[j * 3 + 2]? = some (.int .u64 (kAt ks j).2.2)
  | k :: r, 0, _ => by simp [flat, kAt]
  | k :: r, j + 1, h => by
    have ih := flat_getElem? r j (by simpa using h)
    have e : (j + 1) * 3 = j * 3 + 3 := by omega
    rw [e]
    simpa [flat, kAt] using ih
theorem flat_oneCell (ks : List Key) : ∀ u ∈ flat ks, u.oneCell' = true := by
  induction ks with
  | nil => simp [flat]
  | cons k r ih =>
    intro u hu
    simp only [flat, List.mem_cons] at hu
    rcases hu with rfl | rfl | rfl | hu
    · rfl
    · rfl
    · rfl
    · exact ih u hu
theorem take_snocK (ks : List Key) (k : Nat) (h : k < ks.length) : ks.take (k + 1) = ks.take k ++ [kAt ks k] := by
  rw [List.take_succ_eq_append_getElem h]
  simp [kAt, h]

/-- A row of n keys of which the first k are laid, the others nought. -/
def rowK (ks : List Key) (k n : Nat) : Array Value := (flat (ks.take k) ++ List.replicate ((n - k) * 3) (Value.int .u64 0)).toArray

theorem rowK_size (ks : List Key) (k n : Nat) (h : k ≤ n) (hn : n = ks.length) : (rowK ks k n).size = n * 3 := by
  simp [rowK, flat_length]; omega

theorem rowK_full (ks : List Key) (n : Nat) (hn : n = ks.length) : rowK ks n n = (flat ks).toArray := by
  simp [rowK, hn]

theorem rowK_step (ks : List Key) (k n : Nat) (hk : k < n) (hn : n = ks.length) :
    (((rowK ks k n).setIfInBounds (k * 3) (.int .u64 (kAt ks k).1)).setIfInBounds (k * 3 + 1) (.int .u64 (kAt ks k).2.1)).setIfInBounds (k * 3 + 2) (.int .u64 (kAt ks k).2.2) = rowK ks (k + 1) n := by
  have hl : (flat (ks.take k)).length = k * 3 := by rw [flat_length]; simp; omega
  have e : (n - k) * 3 = (n - (k + 1)) * 3 + 3 := by omega
  unfold rowK
  rw [take_snocK ks k (by omega), flat_append, e]
  simp only [List.setIfInBounds_toArray, List.replicate_succ]
  rw [List.set_append_right _ _ (by omega), List.set_append_right _ _ (by omega), List.set_append_right _ _ (by omega)]
  have e0 : k * 3 - (flat (ks.take k)).length = 0 := by omega
  have e1 : k * 3 + 1 - (flat (ks.take k)).length = 1 := by omega
  have e2 : k * 3 + 2 - (flat (ks.take k)).length = 2 := by omega
  rw [e0, e1, e2]
  simp [flat]

/-! ### A block that is known whole -/
theorem cell_of_block {w : World} {g : Nat} {cur : Array Value} {e : TypeId} {fr : Nat × Nat} (h : w.heap[g]? = some (.cells cur e fr)) (o : Nat) : w.cell? ⟨g, o, none⟩ = cur[o]? := by
  simp [World.cell?, h]
theorem cell_at_block {w : World} {g : Nat} {cur : Array Value} {e : TypeId} {fr : Nat × Nat} (h : w.heap[g]? = some (.cells cur e fr)) (o : Nat) (ho : o < cur.size) : ∃ v, w.cell? ⟨g, o, none⟩ = some v := by
  rw [cell_of_block h, Array.getElem?_eq_getElem ho]; exact ⟨_, rfl⟩
theorem free_of_block {w : World} {g : Nat} {cur : Array Value} {e : TypeId} (h : w.heap[g]? = some (.cells cur e (0, 0))) (o : Nat) : w.frozen? ⟨g, o, none⟩ = false := by
  simp [World.frozen?, h]
theorem block_setCell {w : World} {g : Nat} {cur : Array Value} {e : TypeId} {fr : Nat × Nat} (h : w.heap[g]? = some (.cells cur e fr)) (o : Nat) (v : Value) : (w.setCell ⟨g, o, none⟩ v).heap[g]? = some (.cells (cur.setIfInBounds o v) e fr) := by
  simp [World.setCell, Array.getElem?_modify, h]
theorem lt_of_blk {w : World} {g : Nat} {o : Obj} (h : w.heap[g]? = some o) : g < w.heap.size := (Array.getElem?_eq_some_iff.1 h).1

theorem reads_of_block {w : World} {g : Nat} {cur : Array Value} {e : TypeId} {fr : Nat × Nat} (ks : List Key) (h : w.heap[g]? = some (.cells cur e fr)) (ht : cur.toList.take (ks.length * 3) = flat ks) : Reads w (some ⟨g, 0, none⟩) ks := by
  intro _ _
  refine ⟨g, 0, rfl, lt_of_blk h, fun j hj => ?_⟩
  have hc : ∀ o, o < ks.length * 3 → w.cell? ⟨g, o, none⟩ = (flat ks)[o]? := fun o ho => by
    rw [cell_of_block h, ← ht, List.getElem?_take]
    simp [ho]
  obtain ⟨h0, h1, h2⟩ := flat_getElem? ks j hj
  simp only [Nat.zero_add]
  exact ⟨by rw [hc _ (by omega), h0], by rw [hc _ (by omega), h1], by rw [hc _ (by omega), h2]⟩

theorem reads_of_own {w : World} {base : Nat} {e : TypeId} {a : Option Addr} {n cap : Nat} {ks : List Key} (h : w.ownsRow base e 3 (.slice a n cap) n (flat ks)) : Reads w a ks := by
  obtain ⟨hl, h⟩ := h
  rw [flat_length] at hl
  rcases h with ⟨h, h0⟩ | ⟨g, cap', cur, hv, hg, hh, hn, hc, hs, ht⟩
  · intro i hi; omega
  · cases hv
    have : n = ks.length := by omega
    subst this
    exact reads_of_block ks hh ht

end Go.Proofs.Qxb6604108a
