import Derived.Test.Qxb6604247aD2
import Derived.Deep.AppendLies
namespace Go.Proofs.Qxb6604247a
open Go.RowKit
set_option linter.unusedVariables false
set_option linter.unusedSimpArgs false

/-! ### The plain law: the routes of least cost, in order -/
def zAt (zs : List Int) (i : Nat) : Int := zs.getD i 0
/-- The least of the first p + 1 costs. -/
def least (zs : List Int) : Nat → Int
  | 0 => zAt zs 0
  | p + 1 => if zAt zs (p + 1) < least zs p then zAt zs (p + 1) else least zs p
/-- Which of the first k cost v. -/
def sel (zs : List Int) (v : Int) (k : Nat) : List Nat := (List.range k).filter (fun i => zAt zs i == v)
/-- What 'normalRoute' has gathered behind k routes. -/
def gTo (zs : List Int) : Nat → List Nat
  | 0 => []
  | p + 1 => sel zs (least zs p) (p + 1)

theorem zAt_eq {zs : List Int} {i : Nat} {z : Int} (h : zs[i]? = some z) : zAt zs i = z := by simp [zAt, List.getD, h]

theorem least_le (zs : List Int) : ∀ p i, i ≤ p → least zs p ≤ zAt zs i
  | 0, i, h => by obtain rfl : i = 0 := by omega
                  exact Int.le_refl _
  | p + 1, i, h => by
    unfold least
    by_cases hi : i = p + 1
    · subst hi
      split <;> omega
    · have := least_le zs p i (by omega)
      split <;> omega
theorem least_at (zs : List Int) : ∀ p, ∃ i, i ≤ p ∧ zAt zs i = least zs p
  | 0 => ⟨0, Nat.le_refl _, rfl⟩
  | p + 1 => by
    unfold least
    split
    · exact ⟨p + 1, Nat.le_refl _, rfl⟩
    · obtain ⟨i, h1, h2⟩ := least_at zs p
      exact ⟨i, by omega, h2⟩

theorem sel_succ (zs : List Int) (v : Int) (k : Nat) : sel zs v (k + 1) = sel zs v k ++ if zAt zs k = v then [k] else [] := by
  unfold sel
  rw [List.range_succ, List.filter_append]
  by_cases h : zAt zs k = v <;> simp [h]
theorem sel_mem {zs : List Int} {v : Int} {k i : Nat} : i ∈ sel zs v k ↔ i < k ∧ zAt zs i = v := by simp [sel]

theorem gTo_one (zs : List Int) : gTo zs 1 = [0] := by
  show sel zs (least zs 0) (0 + 1) = [0]
  rw [sel_succ]; simp [sel, least]
theorem gTo_lt {zs : List Int} {p : Nat} (h : zAt zs (p + 1) < least zs p) : gTo zs (p + 2) = [p + 1] := by
  have hl : least zs (p + 1) = zAt zs (p + 1) := by rw [least, if_pos h]
  show sel zs (least zs (p + 1)) (p + 1 + 1) = [p + 1]
  rw [sel_succ, hl, if_pos rfl]
  have : sel zs (zAt zs (p + 1)) (p + 1) = [] := by
    rw [List.eq_nil_iff_forall_not_mem]
    intro i hi
    obtain ⟨h1, h2⟩ := sel_mem.1 hi
    have := least_le zs p i (by omega)
    omega
  rw [this]; rfl
theorem gTo_eq {zs : List Int} {p : Nat} (h : zAt zs (p + 1) = least zs p) : gTo zs (p + 2) = gTo zs (p + 1) ++ [p + 1] := by
  have hl : least zs (p + 1) = least zs p := by rw [least, if_neg (by omega)]
  show sel zs (least zs (p + 1)) (p + 1 + 1) = sel zs (least zs p) (p + 1) ++ [p + 1]
  rw [sel_succ, hl, if_pos h]
theorem gTo_gt {zs : List Int} {p : Nat} (h : least zs p < zAt zs (p + 1)) : gTo zs (p + 2) = gTo zs (p + 1) := by
  have hl : least zs (p + 1) = least zs p := by rw [least, if_neg (by omega)]
  show sel zs (least zs (p + 1)) (p + 1 + 1) = sel zs (least zs p) (p + 1)
  rw [sel_succ, hl, if_neg (by omega), List.append_nil]
theorem gTo_mem {zs : List Int} {p i : Nat} (h : i ∈ gTo zs (p + 1)) : zAt zs i = least zs p ∧ i < p + 1 := by
  obtain ⟨h1, h2⟩ := sel_mem.1 (show i ∈ sel zs (least zs p) (p + 1) from h)
  exact ⟨h2, h1⟩
theorem gTo_pos (zs : List Int) (p : Nat) : 0 < (gTo zs (p + 1)).length := by
  obtain ⟨i, h1, h2⟩ := least_at zs p
  exact List.length_pos_of_mem (show i ∈ gTo zs (p + 1) from sel_mem.2 ⟨by omega, h2⟩)
theorem sel_length (zs : List Int) (v : Int) : ∀ k, (sel zs v k).length ≤ k := fun k => by
  have := List.length_filter_le (fun i => zAt zs i == v) (List.range k)
  unfold sel; simp at this; exact this
theorem gTo_length (zs : List Int) : ∀ k, (gTo zs k).length ≤ k
  | 0 => by simp [gTo]
  | p + 1 => sel_length _ _ _

/-- Number k stands where the count of those before it says. -/
theorem sel_at {zs : List Int} {v : Int} {k n : Nat} (hk : k < n) (h : zAt zs k = v) : (sel zs v n)[(sel zs v k).length]? = some k := by
  obtain ⟨c, rfl⟩ : ∃ c, n = k + (c + 1) := ⟨n - k - 1, by omega⟩
  have hs : sel zs v (k + (c + 1)) = sel zs v k ++ ((List.range (c + 1)).map (k + ·)).filter (fun i => zAt zs i == v) := by
    unfold sel; rw [List.range_add, List.filter_append]
  rw [hs, List.getElem?_append_right (Nat.le_refl _), Nat.sub_self, List.range_succ_eq_map]
  simp [h]

/-! ### The routes' cells -/
def flat2 (gL : Nat) (zs : List Int) (G : List Nat) : List Value := G.flatMap fun i => [.pointer (some ⟨gL, i * 5, none⟩), .int .i64 (zAt zs i)]
theorem flat2_cons (gL : Nat) (zs : List Int) (i : Nat) (G : List Nat) : flat2 gL zs (i :: G) = .pointer (some ⟨gL, i * 5, none⟩) :: .int .i64 (zAt zs i) :: flat2 gL zs G := by simp [flat2]
theorem flat2_length (gL : Nat) (zs : List Int) (G : List Nat) : (flat2 gL zs G).length = G.length * 2 := by
  induction G with
  | nil => rfl
  | cons i G ih => rw [flat2_cons]; simp [ih]; omega
theorem flat2_append (gL : Nat) (zs : List Int) (G G' : List Nat) : flat2 gL zs (G ++ G') = flat2 gL zs G ++ flat2 gL zs G' := by simp [flat2]
theorem flat2_getElem? (gL : Nat) (zs : List Int) : ∀ (G : List Nat) (j i : Nat), G[j]? = some i → (flat2 gL zs G)[j * 2]? = some (.pointer (some ⟨gL, i * 5, none⟩)) ∧ (flat2 gL zs G)[j * 2 + 1]? = some (.int .i64 (zAt zs i))
  | [], j, i, h => by simp at h
  | x :: G, 0, i, h => by simp at h; subst h; rw [flat2_cons]; simp
  | x :: G, j + 1, i, h => by
    have ih := flat2_getElem? gL zs G j i (by simpa using h)
    rw [flat2_cons, show (j + 1) * 2 = j * 2 + 2 by omega]
    simpa using ih

/-- The gathered routes in the row that the call made. -/
theorem row_cells {w : World} {base g m cap : Nat} {gL : Nat} {zs : List Int} {G : List Nat} (h : w.ownsRow base 31 2 (.slice (some ⟨g, 0, none⟩) m cap) m (flat2 gL zs G)) {j i : Nat} (hj : G[j]? = some i) :
    w.cell? ⟨g, j * 2, none⟩ = some (.pointer (some ⟨gL, i * 5, none⟩)) ∧ w.cell? ⟨g, j * 2 + 1, none⟩ = some (.int .i64 (zAt zs i)) := by
  obtain ⟨hl, h⟩ := h
  rw [flat2_length] at hl
  have hjl : j < G.length := (List.getElem?_eq_some_iff.1 hj).1
  rcases h with ⟨h, h0⟩ | ⟨g', cap', cur, hv, hg, hh, hn, hc, hs, ht⟩
  · cases h
  · cases hv
    obtain ⟨e1, e2⟩ := flat2_getElem? gL zs G j i hj
    have hc : ∀ o, o < G.length * 2 → w.cell? ⟨g, o, none⟩ = (flat2 gL zs G)[o]? := fun o ho => by
      rw [cell_of_block hh, ← ht, List.getElem?_take]
      simp; intro h; omega
    rw [hc _ (by omega), hc _ (by omega)]
    exact ⟨e1, e2⟩

end Go.Proofs.Qxb6604247a
