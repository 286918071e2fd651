import Derived.WalkKit
namespace Go.Proofs.Qxb6604108a
set_option linter.unusedVariables false
set_option linter.unusedSimpArgs false

/-! ### How many different ones a list has -/
section
variable {α : Type} [DecidableEq α]

/-- Each element once, at its first place. -/
def ded (L : List α) : List α := L.foldl (fun acc x => if x ∈ acc then acc else acc ++ [x]) []

theorem ded_snoc (L : List α) (x : α) : ded (L ++ [x]) = if x ∈ ded L then ded L else ded L ++ [x] := by
  unfold ded; rw [List.foldl_append]; rfl
end
/-- A list is built from its end. -/
theorem snoc_ind {α : Type} {P : List α → Prop} (h0 : P []) (h1 : ∀ l a, P l → P (l ++ [a])) (L : List α) : P L := by
  have h : ∀ l : List α, P l.reverse := fun l => by
    induction l with
    | nil => exact h0
    | cons a l ih => rw [List.reverse_cons]; exact h1 _ _ ih
  have := h L.reverse
  rwa [List.reverse_reverse] at this
section
variable {α : Type} [DecidableEq α]

theorem mem_ded (L : List α) : ∀ x, x ∈ ded L ↔ x ∈ L := by
  refine snoc_ind (P := fun L => ∀ x, x ∈ ded L ↔ x ∈ L) (by simp [ded]) (fun L a ih x => ?_) L
  rw [ded_snoc]
  split
  · rename_i h
    rw [ih x, List.mem_append, List.mem_singleton]
    constructor
    · exact Or.inl
    · rintro (h' | rfl)
      · exact h'
      · exact (ih x).1 h
  · rw [List.mem_append, List.mem_append, ih x]

theorem nodup_ded (L : List α) : (ded L).Nodup := by
  refine snoc_ind (P := fun L => (ded L).Nodup) (by simp [ded]) (fun L a ih => ?_) L
  rw [ded_snoc]
  split
  · exact ih
  · rename_i h
    rw [List.nodup_append]
    exact ⟨ih, by simp, fun x hx y hy => by simp at hy; subst hy; exact fun e => h (e ▸ hx)⟩

theorem len_ded_snoc (L : List α) (x : α) : (ded (L ++ [x])).length = (ded L).length + if x ∈ L then 0 else 1 := by
  rw [ded_snoc]
  by_cases h : x ∈ L
  · rw [if_pos ((mem_ded L x).2 h), if_pos h]; rfl
  · rw [if_neg (fun h' => h ((mem_ded L x).1 h')), if_neg h]; simp

theorem len_ded_le (L : List α) : (ded L).length ≤ L.length := by
  refine snoc_ind (P := fun L => (ded L).length ≤ L.length) (by simp [ded]) (fun L a ih => ?_) L
  rw [len_ded_snoc, List.length_append]
  split <;> simp <;> omega

theorem nodup_sub_len : ∀ (l m : List α), l.Nodup → (∀ x ∈ l, x ∈ m) → l.length ≤ m.length
  | [], m, _, _ => by simp
  | a :: l, m, hn, hs => by
    obtain ⟨h1, h2⟩ := List.nodup_cons.1 hn
    have ham := hs a (by simp)
    have := nodup_sub_len l (m.erase a) h2 (fun x hx => by
      have hxa : x ≠ a := fun e => h1 (e ▸ hx)
      exact (List.mem_erase_of_ne hxa).2 (hs x (by simp [hx])))
    rw [List.length_erase_of_mem ham] at this
    have hpos : 0 < m.length := List.length_pos_of_mem ham
    simp; omega

theorem nodup_len {l m : List α} (hl : l.Nodup) (hm : m.Nodup) (h : ∀ x, x ∈ l ↔ x ∈ m) : l.length = m.length :=
  Nat.le_antisymm (nodup_sub_len l m hl fun x hx => (h x).1 hx) (nodup_sub_len m l hm fun x hx => (h x).2 hx)

theorem len_ded_eq {L m : List α} (hm : m.Nodup) (h : ∀ x, x ∈ L ↔ x ∈ m) : (ded L).length = m.length :=
  nodup_len (nodup_ded L) hm (fun x => (mem_ded L x).trans (h x))
end

end Go.Proofs.Qxb6604108a
