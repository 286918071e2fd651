import Derived.Test.Qxb6604108aCache
import Derived.Test.Qxb6604108aW2
namespace Go.Proofs.Qxb6604108a
open Go.RowKit

theorem Try.info56 : (Try.prog.info? 56).map (fun i => (i.zero, i.size, i.bytes)) = some (some (.agg #[.int .u64 0, .int .u64 0, .int .u64 0]), 3, 24) := by kernel_rfl

/-- Every cell of the keys, at whatever address the slice has. -/
theorem Reads.news {w : World} {x : Addr} {ks : List Key} (h : Reads w (some x) ks) : ∀ j u, (flat ks)[j]? = some u → w.cell? (x.add j) = some u := by
  intro j u hu
  have hj : j < ks.length * 3 := by have := (List.getElem?_eq_some_iff.1 hu).1; rw [flat_length] at this; exact this
  obtain ⟨b, off, hx, _, hc⟩ := h (j / 3) (by omega)
  cases hx
  obtain ⟨c0, c1, c2⟩ := hc (j / 3) (by omega)
  obtain ⟨f0, f1, f2⟩ := flat_getElem? ks (j / 3) (by omega)
  have hadd : (⟨b, off, none⟩ : Addr).add j = ⟨b, off + j, none⟩ := by unfold Addr.add; split <;> simp_all
  rw [hadd]
  have hr : j = j / 3 * 3 ∨ j = j / 3 * 3 + 1 ∨ j = j / 3 * 3 + 2 := by omega
  rcases hr with hr | hr | hr
  · rw [← hr] at f0 c0; rw [f0] at hu; rw [c0]; exact hu
  · rw [← hr] at f1; rw [Nat.add_assoc, ← hr] at c1; rw [f1] at hu; rw [c1]; exact hu
  · rw [← hr] at f2; rw [Nat.add_assoc, ← hr] at c2; rw [f2] at hu; rw [c2]; exact hu

theorem Reads.below {w w' : World} {a : Option Addr} {ks : List Key} (h : Reads w a ks) (hb : Below w.heap.size w w') : Reads w' a ks := by
  intro i hi
  obtain ⟨b, off, hx, hlt, hc⟩ := h i hi
  refine ⟨b, off, hx, Nat.lt_of_lt_of_le hlt hb.size, fun j hj => ?_⟩
  obtain ⟨c0, c1, c2⟩ := hc j hj
  exact ⟨(hb.cell hlt).trans c0, (hb.cell hlt).trans c1, (hb.cell hlt).trans c2⟩

set_option maxHeartbeats 400000 in
theorem clone_any (a : Option Addr) (n cap : Nat) (ks : List Key) (w : World) (Hn : Hid (ks.length = n)) (hr : Reads w a ks) (hn : n ≤ 1048576) (h0 : a = none → n = 0) :
    Calls Try.prog 33 #[.slice a n cap] w fun e w' => ∃ a' cap', e = .returned (.slice a' n cap') ∧ w'.ownsRow w.heap.size 56 3 (.slice a' n cap') n (flat ks) ∧ Below w.heap.size w w' := by
  obtain ⟨i0, hi, hz0, hz1, hz2⟩ := info_parts Try.info56
  have hel := eqlNil 53 56 Try.underlying53
  cases a with
  | none =>
    obtain rfl := h0 rfl
    have hk : Hid (ks = []) := List.eq_nil_of_length_eq_zero Hn.out
    go_enter Try.func33, Try.ntmps33
    go_wp2
    go_ret
    exact ⟨none, 0, rfl, by rw [hk.out]; exact World.ownsRow_nil _ _ _ _, Below.refl _ _⟩
  | some x =>
    clear h0
    have hnews := hr.news
    have HN : Hid (∀ j u, (flat ks)[j]? = some u → (w.alloc (.cells #[] 56)).cell? (x.add j) = some u) := fun j u h => by
      have := hnews j u h
      exact cell_later ((Below.refl _ _).alloc (Nat.le_refl _) _) this
    clear hnews hr
    go_enter Try.func33, Try.ntmps33
    have hown : (w.alloc (.cells #[] 56)).ownsRow w.heap.size 56 3 (.slice (some ⟨w.heap.size, 0, none⟩) 0 0) 0 [] := World.ownsRow_made w #[] 0 (Nat.le_refl _) (Nat.zero_le _) rfl
    have hlen : (flat ks).length = n * 3 := by rw [flat_length, Hn.out]
    have HL : Hid ((flat ks).length = n * 3) := hlen
    clear hlen
    go_wp2_with (at_builtin; refine wpList_append_own _ rfl _ _ 53 rfl w.heap.size 56 i0 _ 3 24 Try.underlying53 hi hz0 hz1 hz2 rfl (by decide) _ 0 [] rfl hown x n cap (flat ks) rfl HL.out HN.out (flat_oneCell ks) (by unfold maxLen; omega) (by omega) (by simp) ?_; intro v' w1 hown1 hgrow hnil)
    obtain ⟨g, cap', hv⟩ : ∃ a' cap', v' = .slice a' n cap' := by
      rcases hown1.2 with ⟨h1, h2⟩ | ⟨g, cap', cur, h1, _⟩
      · exact ⟨none, 0, by rw [h1]; congr 1; omega⟩
      · exact ⟨_, cap', by rw [h1]; congr 1; omega⟩
    subst hv
    go_ret
    refine ⟨g, cap', rfl, by simpa using hown1, ?_⟩
    exact ((Below.refl _ _).alloc (Nat.le_refl _) _).grown hgrow (by simp) (fun k hk => by cases hk; exact Nat.le_refl _)

end Go.Proofs.Qxb6604108a
