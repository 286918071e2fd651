import Derived.Test.Qxb6604108aOpen
import Derived.Test.Qxb6604108aV1
namespace Go.Proofs.Qxb6604108a
open Go.ChangeShapes Go.WideShapes Go.RowKit
set_option linter.unusedVariables false
set_option linter.unusedSimpArgs false

theorem cells31 : Try.prog.cellsOf 31 = 1 := by kernel_rfl

/-- A slice of lists of keys that came in. -/
theorem open_lists {H : Type} {enc : TypeId × Value → H} {W : World} {base fuel : Nat} {held : Bool} {cs : List Value} {x : DataW H × List MemPlace} (h : DataW.trod enc Try.prog W base (fun _ => true) held fuel 22 cs = some x) :
    ∃ a len cap ls, cs = [.slice a len cap] ∧ len ≤ 9223372036854775807 ∧ ls.length = len ∧ LReads W a ls ∧ (a = none → len = 0) := by
  rcases Deep.open_slice Try.underlying22 h with ⟨hcs, _⟩ | ⟨a, len, cap, m, n, D, Pl, hcs, hb, hl, hm, hmm, hx, hel⟩
  · exact ⟨none, 0, 0, [], hcs, by omega, rfl, fun i hi => by simp at hi, fun _ => rfl⟩
  · simp only [if_true] at hmm
    subst hmm
    rw [cells31] at hel
    have hk : ∀ i, i < len → ∃ l : List Key, ∃ a' cap', W.cell? (a.add i) = some (.slice a' l.length cap') ∧ Reads W a' l ∧ (a' = none → l.length = 0) ∧ l.length ≤ 9223372036854775807 := by
      intro i hi
      obtain ⟨cs', h1, h2⟩ := hel i (by omega)
      obtain ⟨a', len', cap', ks, e1, e2, e3, e4, e5⟩ := open_keys h2
      obtain ⟨_, h3, h4⟩ := World.cells?_some h1
      have h5 := h4 0 (by omega)
      rw [e1] at h5
      simp [Addr.add] at h5
      refine ⟨ks, a', cap', ?_, e4, fun h => by rw [e3]; exact e5 h, by omega⟩
      rw [e3]
      simpa [Addr.add] using h5
    obtain ⟨f, hf⟩ := Deep.choose_lt hk
    refine ⟨some a, len, m, (List.range len).map f, hcs, by unfold maxLen at hm; omega, by simp, ?_, fun h => by cases h⟩
    intro i hi
    simp at hi
    obtain ⟨b, off, spot⟩ := a
    have hspot : spot = none := by
      obtain ⟨a', cap', h1, _⟩ := hf 0 (by omega)
      simpa [Addr.add] using World.cell?_spot h1
    subst hspot
    refine ⟨b, off, rfl, ?_, fun j l hj => ?_⟩
    · obtain ⟨a', cap', h1, _⟩ := hf 0 (by omega)
      exact World.block_lt_of_cell? W ⟨b, off, none⟩ (by simpa [Addr.add] using h1)
    · have hjl : j < len := by have := (List.getElem?_eq_some_iff.1 hj).1; simpa using this
      have hfj : f j = l := by simpa [hjl] using hj
      obtain ⟨a', cap', h1, h2, h3, h4⟩ := hf j hjl
      rw [Go.WideShapes.add_plain, hfj] at h1
      rw [hfj] at h2 h3 h4
      exact ⟨a', cap', h1, h2, h3, h4⟩

end Go.Proofs.Qxb6604108a
