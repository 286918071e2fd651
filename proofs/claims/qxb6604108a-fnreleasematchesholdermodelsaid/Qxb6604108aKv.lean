import Derived.Test.Qxb6604108aBal
namespace Go.Proofs.Qxb6604108a
open Go.RowKit
set_option linter.unusedVariables false
set_option linter.unusedSimpArgs false

/-- Handle j leads to the set of list j; no two sets have one list. -/
structure Kv (st : List Bucket) (L : List Nat) (ls : List (List Key)) : Prop where
  key : ∀ (j b : Nat), L[j]? = some b → ∃ s ∈ setsOf st, s.b = b ∧ ls[j]? = some s.keys
  dist : ∀ s ∈ setsOf st, ∀ t ∈ setsOf st, s.keys = t.keys → s.b = t.b

theorem kv_nil (ls : List (List Key)) : Kv [] [] ls := ⟨fun j b h => by simp at h, by simp [setsOf]⟩

theorem set_uniq {st : List Bucket} (hb : ((setsOf st).map (·.b)).Nodup) {s t : KS} (hs : s ∈ setsOf st) (ht : t ∈ setsOf st) (e : s.b = t.b) : s = t := by
  obtain ⟨p, hp⟩ := List.getElem?_of_mem hs
  obtain ⟨q, hq⟩ := List.getElem?_of_mem ht
  have : p = q := nodup_getElem? hb (x := t.b) (by simp [hp, e]) (by simp [hq])
  subst this
  rw [hp] at hq; exact Option.some.inj hq

theorem count_iff {α β : Type} [BEq α] [LawfulBEq α] [BEq β] [LawfulBEq β] (L : List α) (M : List β) (a : α) (b : β) : ∀ i, i ≤ L.length → i ≤ M.length → (∀ j, j < i → (L[j]? = some a ↔ M[j]? = some b)) → (L.take i).count a = (M.take i).count b
  | 0, _, _, _ => by simp
  | i + 1, h1, h2, h => by
    have ih := count_iff L M a b i (by omega) (by omega) (fun j hj => h j (by omega))
    have hL : L[i]? = some L[i] := List.getElem?_eq_getElem (by omega)
    have hM : M[i]? = some M[i] := List.getElem?_eq_getElem (by omega)
    rw [List.take_add_one, List.take_add_one, List.count_append, List.count_append, ih, hL, hM]
    have hi := h i (by omega)
    rw [hL, hM] at hi
    simp only [Option.some.injEq] at hi
    simp only [Option.toList_some, List.count_singleton]
    by_cases e : L[i] = a
    · simp [e, hi.1 e]
    · have e' : M[i] ≠ b := fun h => e (hi.2 h)
      simp [e, e']

theorem count_pos_at {α : Type} [BEq α] [LawfulBEq α] {L : List α} {a : α} {i : Nat} (h : 0 < (L.take i).count a) : ∃ j, j < i ∧ L[j]? = some a := by
  obtain ⟨j, hj⟩ := List.getElem?_of_mem (List.count_pos_iff.1 h)
  rw [List.getElem?_take] at hj
  split at hj
  · rename_i hlt; exact ⟨j, hlt, hj⟩
  · cases hj
theorem count_zero_at {α : Type} [BEq α] [LawfulBEq α] {L : List α} {a : α} {i : Nat} (h : (L.take i).count a = 0) : ∀ j, j < i → L[j]? ≠ some a := fun j hj e => by
  have : a ∈ L.take i := List.mem_of_getElem? (i := j) (by rw [List.getElem?_take, if_pos hj]; exact e)
  have := List.count_pos_iff.2 this
  omega

/-- The one handle of all lists equal to ks. -/
theorem Kv.want {w : World} {bc bm base : Nat} {st : List Bucket} (hc : Cache w bc bm base st) {L : List Nat} {ls : List (List Key)} (hk : Kv st L ls) (ks : List Key) : ∃ W, ∀ j, j < L.length → ls[j]? = some ks → L[j]? = some W := by
  by_cases h : ∃ j, j < L.length ∧ ls[j]? = some ks
  · obtain ⟨j0, hj0, e0⟩ := h
    obtain ⟨s, hs, sb, sk⟩ := hk.key j0 _ (List.getElem?_eq_getElem hj0)
    refine ⟨s.b, fun j hj e => ?_⟩
    obtain ⟨t, ht, tb, tk⟩ := hk.key j _ (List.getElem?_eq_getElem hj)
    have : s.keys = t.keys := by
      rw [e0] at sk; rw [e] at tk
      rw [← Option.some.inj sk, ← Option.some.inj tk]
    rw [hk.dist s hs t ht this, tb]
    exact List.getElem?_eq_getElem hj
  · exact ⟨0, fun j hj e => absurd ⟨j, hj, e⟩ h⟩

/-- What a hold answers, in the law's own words. -/
theorem Kv.hold {w : World} {bc bm base : Nat} {st : List Bucket} (hc : Cache w bc bm base st) {L : List Nat} {ls : List (List Key)} (hbal : Bal st L) (hk : Kv st L ls) {ks : List Key} (hks : ls[L.length]? = some ks) {b : Nat} {st' : List Bucket} (h : HeldBy st ks b w.heap.size st') {c : Nat} (hcc : (ls.take L.length).count ks = c) :
    (c = 0 → L.count b = 0) ∧ (∀ j, j < L.length → ls[j]? = some ks → L[j]? = some b) ∧ (∃ s ∈ setsOf st', s.b = b ∧ s.keys = ks ∧ s.n = (c : Nat) + 1) ∧ Kv st' (L ++ [b]) ls := by
  have hll : L.length < ls.length := (List.getElem?_eq_some_iff.1 hks).1
  have hlt : ∀ s ∈ setsOf st, s.b < w.heap.size := fun s hs => by
    obtain ⟨q, C, hq, ht⟩ := mem_setsOf.1 hs
    exact (hc.set C (List.mem_of_getElem? hq) s ht).1.lt
  rcases h.view hc with ⟨s, hs, hsk, rfl, hm, _⟩ | ⟨hno, hH, hm, _⟩
  · -- the set was there
    have hiff : ∀ j, j < L.length → (L[j]? = some s.b ↔ ls[j]? = some ks) := fun j hj => by
      obtain ⟨t, ht, tb, tk⟩ := hk.key j _ (List.getElem?_eq_getElem hj)
      constructor
      · intro e
        rw [List.getElem?_eq_getElem hj] at e
        have : t = s := set_uniq hc.blocks ht hs (tb.trans (Option.some.inj e))
        rw [tk, this, hsk]
      · intro e
        rw [tk] at e
        have : t.b = s.b := hk.dist t ht s hs ((Option.some.inj e).trans hsk.symm)
        rw [← this, tb]; exact List.getElem?_eq_getElem hj
    have hcnt : L.count s.b = c := by
      have := count_iff L ls s.b ks L.length (Nat.le_refl _) (by omega) hiff
      rw [List.take_length] at this
      rw [this, hcc]
    have hpos : 0 < c := by
      have := List.count_pos_iff.2 (hbal.cnt s hs).2; omega
    refine ⟨fun h0 => by omega, fun j hj e => (hiff j hj).2 e, ⟨_, (hm _).2 (Or.inl rfl), rfl, hsk, ?_⟩, ⟨fun j x hx => ?_, fun x hx y hy e => ?_⟩⟩
    · have := (hbal.cnt s hs).1
      simp only; omega
    · by_cases hj : j < L.length
      · rw [List.getElem?_append_left hj] at hx
        obtain ⟨t, ht, tb, tk⟩ := hk.key j x hx
        by_cases e : t.b = s.b
        · have : t = s := set_uniq hc.blocks ht hs e
          subst this
          exact ⟨_, (hm _).2 (Or.inl rfl), tb, tk⟩
        · exact ⟨t, (hm t).2 (Or.inr ⟨ht, e⟩), tb, tk⟩
      · rw [List.getElem?_append_right (by omega)] at hx
        have hj0 : j = L.length := by
          rcases Nat.eq_or_lt_of_le (Nat.le_of_not_lt hj) with h | h
          · exact h.symm
          · obtain ⟨q, hq⟩ : ∃ q, j - L.length = q + 1 := ⟨j - L.length - 1, by omega⟩
            rw [hq] at hx; simp at hx
        subst hj0
        simp at hx; subst hx
        exact ⟨_, (hm _).2 (Or.inl rfl), rfl, by rw [hks, hsk]⟩
    · have hold : ∀ z ∈ setsOf st', ∃ z' ∈ setsOf st, z'.b = z.b ∧ z'.keys = z.keys := fun z hz => by
        rcases (hm z).1 hz with rfl | ⟨hz, _⟩
        · exact ⟨s, hs, rfl, rfl⟩
        · exact ⟨z, hz, rfl, rfl⟩
      obtain ⟨x', hx', xb, xk⟩ := hold x hx
      obtain ⟨y', hy', yb, yk⟩ := hold y hy
      rw [← xb, ← yb]
      exact hk.dist x' hx' y' hy' (by rw [xk, yk, e])
  · -- a new set
    have hnoj : ∀ j, j < L.length → ls[j]? ≠ some ks := fun j hj e => by
      obtain ⟨t, ht, tb, tk⟩ := hk.key j _ (List.getElem?_eq_getElem hj)
      rw [tk] at e
      exact hno t ht (Option.some.inj e)
    have hc0 : c = 0 := by
      rcases Nat.eq_zero_or_pos c with h | h
      · exact h
      · rw [← hcc] at h
        obtain ⟨j, hj, e⟩ := count_pos_at h
        exact absurd e (hnoj j hj)
    have hnb : L.count b = 0 := List.count_eq_zero_of_not_mem fun hb => by
      obtain ⟨t, ht, e⟩ := hbal.mem b hb
      have := hlt t ht; omega
    refine ⟨fun _ => hnb, fun j hj e => absurd e (hnoj j hj), ⟨_, (hm _).2 (Or.inl rfl), rfl, rfl, by simp [hc0]⟩, ⟨fun j x hx => ?_, fun x hx y hy e => ?_⟩⟩
    · by_cases hj : j < L.length
      · rw [List.getElem?_append_left hj] at hx
        obtain ⟨t, ht, tb, tk⟩ := hk.key j x hx
        exact ⟨t, (hm t).2 (Or.inr ht), tb, tk⟩
      · rw [List.getElem?_append_right (by omega)] at hx
        have hj0 : j = L.length := by
          rcases Nat.eq_or_lt_of_le (Nat.le_of_not_lt hj) with h | h
          · exact h.symm
          · obtain ⟨q, hq⟩ : ∃ q, j - L.length = q + 1 := ⟨j - L.length - 1, by omega⟩
            rw [hq] at hx; simp at hx
        subst hj0
        simp at hx; subst hx
        exact ⟨_, (hm _).2 (Or.inl rfl), rfl, hks⟩
    · rcases (hm x).1 hx with rfl | hx <;> rcases (hm y).1 hy with rfl | hy
      · rfl
      · exact absurd e.symm (hno y hy)
      · exact absurd e (hno x hx)
      · exact hk.dist x hx y hy e

end Go.Proofs.Qxb6604108a
