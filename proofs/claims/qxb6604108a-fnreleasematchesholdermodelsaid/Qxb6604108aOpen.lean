import Derived.Test.Qxb6604108aRow
import Derived.Deep.Slices
import Derived.Laws.IdiomArrays
import Derived.OpenShut
namespace Go.Proofs.Qxb6604108a
open Go.ChangeShapes Go.WideShapes Go.RowKit
set_option linter.unusedVariables false
set_option linter.unusedSimpArgs false

theorem cells40 : Try.prog.cellsOf 40 = 1 := by kernel_rfl
theorem cells41 : Try.prog.cellsOf 41 = 3 := by kernel_rfl

/-- A slice of keys that came in. -/
theorem open_keys {H : Type} {enc : TypeId × Value → H} {W : World} {base fuel : Nat} {held : Bool} {cs : List Value} {x : DataW H × List MemPlace} (h : DataW.trod enc Try.prog W base (fun _ => true) held fuel 31 cs = some x) :
    ∃ a len cap ks, cs = [.slice a len cap] ∧ len ≤ 9223372036854775807 ∧ ks.length = len ∧ Reads W a ks ∧ (a = none → len = 0) := by
  rcases Deep.open_slice Try.underlying31 h with ⟨hcs, _⟩ | ⟨a, len, cap, m, n, D, Pl, hcs, hb, hl, hm, hmm, hx, hel⟩
  · exact ⟨none, 0, 0, [], hcs, by omega, rfl, fun i hi => by simp at hi, fun _ => rfl⟩
  · simp only [if_true] at hmm
    subst hmm
    rw [cells41] at hel
    have hk : ∀ i, i < len → ∃ k : Key, W.cell? (a.add (i * 3)) = some (.int .u64 k.1) ∧ W.cell? (a.add (i * 3 + 1)) = some (.int .u64 k.2.1) ∧ W.cell? (a.add (i * 3 + 2)) = some (.int .u64 k.2.2) := by
      intro i hi
      obtain ⟨cs', h1, h2⟩ := hel i (by omega)
      have h3 : (List.range 3).mapM (fun j => W.cell? ((a.add (i * 3)).add j)) = some cs' := by
        unfold World.cells? at h1
        split at h1
        · exact h1
        · cases h1
      have r3 : List.range 3 = [0, 1, 2] := rfl
      rw [r3] at h3
      simp only [Deep.add_add, Nat.add_zero] at h3
      cases c0 : W.cell? (a.add (i * 3)) with
      | none => simp [c0] at h3
      | some v0 =>
        cases c1 : W.cell? (a.add (i * 3 + 1)) with
        | none => simp [c0, c1] at h3
        | some v1 =>
          cases c2 : W.cell? (a.add (i * 3 + 2)) with
          | none => simp [c0, c1, c2] at h3
          | some v2 =>
            simp [c0, c1, c2] at h3
            subst h3
            obtain ⟨y0, y1, y2, n', _, t0, t1, t2⟩ := trod_array3 Try.underlying41 cells40 h2
            obtain ⟨n0, e0, _⟩ := DataW.trod_int Try.underlying40 t0
            obtain ⟨n1, e1, _⟩ := DataW.trod_int Try.underlying40 t1
            obtain ⟨n2, e2, _⟩ := DataW.trod_int Try.underlying40 t2
            simp at e0 e1 e2
            exact ⟨(n0, n1, n2), by rw [e0], by rw [e1], by rw [e2]⟩
    obtain ⟨f, hf⟩ := Deep.choose_lt hk
    refine ⟨some a, len, m, (List.range len).map f, hcs, by unfold maxLen at hm; omega, by simp, ?_, fun h => by cases h⟩
    intro i hi
    simp at hi
    obtain ⟨b, off, spot⟩ := a
    have hspot : spot = none := by
      have := (hf 0 (by omega)).1
      simpa [Addr.add] using World.cell?_spot this
    subst hspot
    refine ⟨b, off, rfl, World.block_lt_of_cell? W ⟨b, off, none⟩ (by have := (hf 0 (by omega)).1; simpa [Addr.add] using this), fun j hj => ?_⟩
    simp at hj
    have hka : kAt ((List.range len).map f) j = f j := by simp [kAt, hj]
    rw [hka]
    obtain ⟨h0, h1, h2⟩ := hf j hj
    rw [Go.WideShapes.add_plain] at h0 h1 h2
    exact ⟨h0, by rw [Nat.add_assoc]; exact h1, by rw [Nat.add_assoc]; exact h2⟩

end Go.Proofs.Qxb6604108a
