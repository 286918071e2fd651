import Derived.Test.Qxb6604108aV3
namespace Go.Proofs.Qxb6604108a
open Go.RowKit
set_option linter.unusedVariables false
set_option linter.unusedSimpArgs false

/-! ### Which sets stand in the buckets behind each step -/
theorem mem_setsOf {st : List Bucket} {t : KS} : t ∈ setsOf st ↔ ∃ (q : Nat) (C : Bucket), st[q]? = some C ∧ t ∈ C.sets := by
  unfold setsOf
  rw [List.mem_flatMap]
  constructor
  · rintro ⟨C, hC, ht⟩
    obtain ⟨q, hq⟩ := List.getElem?_of_mem hC
    exact ⟨q, C, hq, ht⟩
  · rintro ⟨q, C, hq, ht⟩
    exact ⟨C, List.mem_of_getElem? hq, ht⟩

theorem mem_setN {st : List Bucket} (hb : ((setsOf st).map (·.b)).Nodup) {j i : Nat} {B : Bucket} {s s' : KS} (hB : st[j]? = some B) (hs : B.sets[i]? = some s) (he : s'.b = s.b) (fp : Int) (v : Value) (t : KS) :
    t ∈ setsOf (st.set j ⟨fp, v, B.sets.set i s'⟩) ↔ t = s' ∨ (t ∈ setsOf st ∧ t.b ≠ s.b) := by
  have lj : j < st.length := (List.getElem?_eq_some_iff.1 hB).1
  have li : i < B.sets.length := (List.getElem?_eq_some_iff.1 hs).1
  have ms := List.mem_of_getElem? hs
  constructor
  · intro h
    obtain ⟨q, C, hq, ht⟩ := mem_setsOf.1 h
    rcases mem_set_iff (List.mem_of_getElem? hq) with rfl | ⟨q', hqj, hq'⟩
    · rcases mem_set_iff ht with rfl | ⟨p, hpi, hp⟩
      · exact Or.inl rfl
      · refine Or.inr ⟨mem_setsOf.2 ⟨j, B, hB, List.mem_of_getElem? hp⟩, fun e => hpi ?_⟩
        exact nodup_getElem? (blocks_in hb hB) (x := s.b) (by simp [hp, e]) (by simp [hs])
    · exact Or.inr ⟨mem_setsOf.2 ⟨q', C, hq', ht⟩, fun e => blocks_apart hb hq' hB hqj ht ms e⟩
  · rintro (rfl | ⟨h, hne⟩)
    · exact mem_setsOf.2 ⟨j, _, List.getElem?_set_self lj, List.mem_of_getElem? (List.getElem?_set_self li)⟩
    · obtain ⟨q, C, hq, ht⟩ := mem_setsOf.1 h
      by_cases hqj : q = j
      · subst hqj
        rw [hB] at hq; cases hq
        obtain ⟨p, hp⟩ := List.getElem?_of_mem ht
        have hpi : i ≠ p := fun e => by subst e; rw [hs] at hp; cases hp; exact hne rfl
        exact mem_setsOf.2 ⟨q, _, List.getElem?_set_self lj, List.mem_of_getElem? (i := p) (by rw [List.getElem?_set, if_neg hpi]; exact hp)⟩
      · exact mem_setsOf.2 ⟨q, C, by rw [List.getElem?_set, if_neg (fun e => hqj e.symm)]; exact hq, ht⟩

theorem mem_dropN {st : List Bucket} (hb : ((setsOf st).map (·.b)).Nodup) {j i : Nat} {B : Bucket} {s : KS} (hB : st[j]? = some B) (hs : B.sets[i]? = some s) (fp : Int) (v : Value) (t : KS) :
    t ∈ setsOf (st.set j ⟨fp, v, B.sets.eraseIdx i⟩) ↔ t ∈ setsOf st ∧ t.b ≠ s.b := by
  have lj : j < st.length := (List.getElem?_eq_some_iff.1 hB).1
  have ms := List.mem_of_getElem? hs
  have hin : ∀ u, u ∈ B.sets.eraseIdx i ↔ u ∈ B.sets ∧ u.b ≠ s.b := fun u => by
    constructor
    · intro hu
      refine ⟨List.mem_of_mem_eraseIdx hu, fun e => ?_⟩
      obtain ⟨p, hp⟩ := List.getElem?_of_mem hu
      rw [List.getElem?_eraseIdx] at hp
      split at hp
      · have := nodup_getElem? (blocks_in hb hB) (x := s.b) (i := p) (j := i) (by simp [hp, e]) (by simp [hs]); omega
      · have := nodup_getElem? (blocks_in hb hB) (x := s.b) (i := p + 1) (j := i) (by simp [hp, e]) (by simp [hs]); omega
    · rintro ⟨hu, hne⟩
      obtain ⟨p, hp⟩ := List.getElem?_of_mem hu
      have hpi : p ≠ i := fun e => by subst e; rw [hs] at hp; cases hp; exact hne rfl
      by_cases h : p < i
      · exact List.mem_of_getElem? (i := p) (by rw [List.getElem?_eraseIdx, if_pos h]; exact hp)
      · obtain ⟨p', rfl⟩ : ∃ p', p = p' + 1 := ⟨p - 1, by omega⟩
        exact List.mem_of_getElem? (i := p') (by rw [List.getElem?_eraseIdx, if_neg (by omega)]; exact hp)
  constructor
  · intro h
    obtain ⟨q, C, hq, ht⟩ := mem_setsOf.1 h
    rcases mem_set_iff (List.mem_of_getElem? hq) with rfl | ⟨q', hqj, hq'⟩
    · obtain ⟨h1, h2⟩ := (hin t).1 ht
      exact ⟨mem_setsOf.2 ⟨j, B, hB, h1⟩, h2⟩
    · exact ⟨mem_setsOf.2 ⟨q', C, hq', ht⟩, fun e => blocks_apart hb hq' hB hqj ht ms e⟩
  · rintro ⟨h, hne⟩
    obtain ⟨q, C, hq, ht⟩ := mem_setsOf.1 h
    by_cases hqj : q = j
    · subst hqj
      rw [hB] at hq; cases hq
      exact mem_setsOf.2 ⟨q, _, List.getElem?_set_self lj, (hin t).2 ⟨ht, hne⟩⟩
    · exact mem_setsOf.2 ⟨q, C, by rw [List.getElem?_set, if_neg (fun e => hqj e.symm)]; exact hq, ht⟩

theorem mem_dropB {st : List Bucket} (hb : ((setsOf st).map (·.b)).Nodup) {j i : Nat} {B : Bucket} {s : KS} (hB : st[j]? = some B) (hs : B.sets[i]? = some s) (h1 : B.sets.length = 1) (t : KS) :
    t ∈ setsOf (st.eraseIdx j) ↔ t ∈ setsOf st ∧ t.b ≠ s.b := by
  have ms := List.mem_of_getElem? hs
  have honly : ∀ u ∈ B.sets, u = s := fun u hu => by
    obtain ⟨p, hp⟩ := List.getElem?_of_mem hu
    have l1 := (List.getElem?_eq_some_iff.1 hp).1
    have l2 := (List.getElem?_eq_some_iff.1 hs).1
    obtain rfl : p = i := by omega
    rw [hs] at hp; exact (Option.some.inj hp).symm
  constructor
  · intro h
    obtain ⟨q, C, hq, ht⟩ := mem_setsOf.1 h
    rw [List.getElem?_eraseIdx] at hq
    split at hq
    · exact ⟨mem_setsOf.2 ⟨q, C, hq, ht⟩, fun e => blocks_apart hb hq hB (by omega) ht ms e⟩
    · exact ⟨mem_setsOf.2 ⟨q + 1, C, hq, ht⟩, fun e => blocks_apart hb hq hB (by omega) ht ms e⟩
  · rintro ⟨h, hne⟩
    obtain ⟨q, C, hq, ht⟩ := mem_setsOf.1 h
    have hqj : q ≠ j := fun e => by
      subst e
      rw [hB] at hq; cases hq
      exact hne (by rw [honly t ht])
    by_cases hl : q < j
    · exact mem_setsOf.2 ⟨q, C, by rw [List.getElem?_eraseIdx, if_pos hl]; exact hq, ht⟩
    · obtain ⟨q', rfl⟩ : ∃ q', q = q' + 1 := ⟨q - 1, by omega⟩
      exact mem_setsOf.2 ⟨q', C, by rw [List.getElem?_eraseIdx, if_neg (by omega)]; exact hq, ht⟩

/-- A hold, told by the sets alone. -/
theorem HeldBy.view {w : World} {bc bm base : Nat} {st : List Bucket} (hc : Cache w bc bm base st) {ks : List Key} {b H : Nat} {st' : List Bucket} (h : HeldBy st ks b H st') :
    (∃ s ∈ setsOf st, s.keys = ks ∧ b = s.b ∧ (∀ t, t ∈ setsOf st' ↔ t = ⟨s.b, s.keys, s.n + 1⟩ ∨ (t ∈ setsOf st ∧ t.b ≠ s.b)) ∧ (setsOf st').length = (setsOf st).length) ∨
    ((∀ s ∈ setsOf st, s.keys ≠ ks) ∧ H ≤ b ∧ (∀ t, t ∈ setsOf st' ↔ t = ⟨b, ks, 1⟩ ∨ t ∈ setsOf st) ∧ (setsOf st').length = (setsOf st).length + 1) := by
  have hb := hc.blocks
  rcases h with ⟨j, B, i, s, hB, hfp, hs, hk, hbs, rfl⟩ | ⟨j, B, v', hB, hfp, hno, hH, rfl⟩ | ⟨v', hno, hH, rfl⟩
  · refine Or.inl ⟨s, mem_setsOf.2 ⟨j, B, hB, List.mem_of_getElem? hs⟩, hk, hbs, fun t => mem_setN hb hB hs (s' := ⟨s.b, s.keys, s.n + 1⟩) rfl _ _ t, ?_⟩
    unfold setsOf
    rw [List.length_flatMap, List.length_flatMap, map_set_same (fun B : Bucket => B.sets.length) hB (by simp)]
  · have hp := setsOf_push v' ⟨b, ks, 1⟩ hB
    refine Or.inr ⟨fun s hs e => ?_, hH, fun t => by rw [hp.mem_iff]; simp, by rw [hp.length_eq]; simp⟩
    obtain ⟨q, C, hq, ht⟩ := mem_setsOf.1 hs
    have hCf := (hc.set C (List.mem_of_getElem? hq) s ht).2
    have hqj : q = j := nodup_getElem? hc.fps (x := fpOf ks) (by simp [hq, ← hCf, e]) (by simp [hB, hfp])
    subst hqj
    rw [hB] at hq; cases hq
    exact hno s ht e
  · refine Or.inr ⟨fun s hs e => ?_, hH, fun t => ?_, ?_⟩
    · obtain ⟨q, C, hq, ht⟩ := mem_setsOf.1 hs
      have hCf := (hc.set C (List.mem_of_getElem? hq) s ht).2
      exact hno C (List.mem_of_getElem? hq) (by rw [← hCf, e])
    · unfold setsOf
      rw [List.flatMap_append]
      simp [or_comm]
    · unfold setsOf
      rw [List.flatMap_append]
      simp

/-- A release, told by the sets alone. -/
theorem RelAt.view {w : World} {bc bm base : Nat} {st : List Bucket} (hc : Cache w bc bm base st) {j i : Nat} {B : Bucket} {s : KS} (hB : st[j]? = some B) (hs : B.sets[i]? = some s) {st' : List Bucket} (h : RelAt st j i B s st') :
    ((1 < s.n ∧ ∀ t, t ∈ setsOf st' ↔ t = ⟨s.b, s.keys, s.n - 1⟩ ∨ (t ∈ setsOf st ∧ t.b ≠ s.b)) ∨ (s.n = 1 ∧ ∀ t, t ∈ setsOf st' ↔ t ∈ setsOf st ∧ t.b ≠ s.b)) ∧ (setsOf st').length ≤ (setsOf st).length := by
  have hb := hc.blocks
  rcases h with ⟨h1, rfl⟩ | ⟨h1, h2, rfl⟩ | ⟨h1, h2, v', rfl⟩
  · refine ⟨Or.inl ⟨h1, fun t => mem_setN hb hB hs (s' := ⟨s.b, s.keys, s.n - 1⟩) rfl _ _ t⟩, ?_⟩
    unfold setsOf
    rw [List.length_flatMap, List.length_flatMap, map_set_same (fun B : Bucket => B.sets.length) hB (by simp)]
    exact Nat.le_refl _
  · exact ⟨Or.inr ⟨h1, fun t => mem_dropB hb hB hs h2 t⟩, (setsOf_sub_erase st j).length_le⟩
  · exact ⟨Or.inr ⟨h1, fun t => mem_dropN hb hB hs _ _ t⟩, (setsOf_sub_set B.fp v' _ hB (List.eraseIdx_sublist _ _)).length_le⟩

/-! ### The cache and the handles agree -/
/-- bs: the handles still held. Each set of the cache counts its handles; each handle leads to a set of the cache. -/
structure Bal (st : List Bucket) (bs : List Nat) : Prop where
  cnt : ∀ s ∈ setsOf st, s.n = (bs.count s.b : Nat) ∧ s.b ∈ bs
  mem : ∀ b ∈ bs, ∃ s ∈ setsOf st, s.b = b

theorem bal_nil : Bal [] [] := ⟨by simp [setsOf], by simp⟩

theorem Bal.hold {w : World} {bc bm base : Nat} {st : List Bucket} (hc : Cache w bc bm base st) {bs : List Nat} (hbal : Bal st bs) {ks : List Key} {b : Nat} {st' : List Bucket} (h : HeldBy st ks b w.heap.size st') : Bal st' (bs ++ [b]) := by
  have hlt : ∀ s ∈ setsOf st, s.b < w.heap.size := fun s hs => by
    obtain ⟨q, C, hq, ht⟩ := mem_setsOf.1 hs
    exact (hc.set C (List.mem_of_getElem? hq) s ht).1.lt
  rcases h.view hc with ⟨s, hs, hk, rfl, hm, _⟩ | ⟨hno, hH, hm, _⟩
  · refine ⟨fun t ht => ?_, fun x hx => ?_⟩
    · rcases (hm t).1 ht with rfl | ⟨ht, hne⟩
      · have := (hbal.cnt s hs).1
        simp [List.count_append, this]
      · have := hbal.cnt t ht
        refine ⟨by rw [this.1, List.count_append]; simp [List.count_cons, Ne.symm hne], by simp [this.2]⟩
    · rcases List.mem_append.1 hx with hx | hx
      · obtain ⟨t, ht, rfl⟩ := hbal.mem x hx
        by_cases e : t.b = s.b
        · exact ⟨_, (hm _).2 (Or.inl rfl), e.symm⟩
        · exact ⟨t, (hm t).2 (Or.inr ⟨ht, e⟩), rfl⟩
      · simp at hx; subst hx
        exact ⟨_, (hm _).2 (Or.inl rfl), rfl⟩
  · have hnb : b ∉ bs := fun hb => by
      obtain ⟨t, ht, e⟩ := hbal.mem b hb
      have := hlt t ht; omega
    refine ⟨fun t ht => ?_, fun x hx => ?_⟩
    · rcases (hm t).1 ht with rfl | ht
      · simp [List.count_append, List.count_eq_zero_of_not_mem hnb]
      · have := hbal.cnt t ht
        have hne : t.b ≠ b := fun e => by have := hlt t ht; omega
        refine ⟨by rw [this.1, List.count_append]; simp [List.count_cons, Ne.symm hne], by simp [this.2]⟩
    · rcases List.mem_append.1 hx with hx | hx
      · obtain ⟨t, ht, rfl⟩ := hbal.mem x hx
        exact ⟨t, (hm t).2 (Or.inr ht), rfl⟩
      · simp at hx; subst hx
        exact ⟨_, (hm _).2 (Or.inl rfl), rfl⟩

theorem Bal.release {w : World} {bc bm base : Nat} {st : List Bucket} (hc : Cache w bc bm base st) {bs bs' : List Nat} (hbal : Bal st bs) {j i : Nat} {B : Bucket} {s : KS} (hB : st[j]? = some B) (hs : B.sets[i]? = some s) {st' : List Bucket} (h : RelAt st j i B s st')
    (hcount : ∀ x, bs.count x = bs'.count x + if x = s.b then 1 else 0) : Bal st' bs' := by
  have hms : s ∈ setsOf st := mem_setsOf.2 ⟨j, B, hB, List.mem_of_getElem? hs⟩
  have hsn := (hbal.cnt s hms).1
  have hcs := hcount s.b
  rw [if_pos rfl] at hcs
  have hother : ∀ x, x ≠ s.b → bs.count x = bs'.count x := fun x hx => by rw [hcount x, if_neg hx]; rfl
  have hmo : ∀ x, x ≠ s.b → (x ∈ bs' ↔ x ∈ bs) := fun x hx => by
    rw [← List.count_pos_iff, ← List.count_pos_iff, hother x hx]
  obtain ⟨hv, _⟩ := h.view hc hB hs
  rcases hv with ⟨h1, hm⟩ | ⟨h1, hm⟩
  · refine ⟨fun t ht => ?_, fun x hx => ?_⟩
    · rcases (hm t).1 ht with rfl | ⟨ht, hne⟩
      · refine ⟨by simp only; omega, ?_⟩
        rw [← List.count_pos_iff]; simp only; omega
      · have := hbal.cnt t ht
        exact ⟨by rw [this.1, hother _ hne], (hmo _ hne).2 this.2⟩
    · by_cases e : x = s.b
      · exact ⟨_, (hm _).2 (Or.inl rfl), e.symm⟩
      · obtain ⟨t, ht, rfl⟩ := hbal.mem x ((hmo x e).1 hx)
        exact ⟨t, (hm t).2 (Or.inr ⟨ht, e⟩), rfl⟩
  · refine ⟨fun t ht => ?_, fun x hx => ?_⟩
    · obtain ⟨ht, hne⟩ := (hm t).1 ht
      have := hbal.cnt t ht
      exact ⟨by rw [this.1, hother _ hne], (hmo _ hne).2 this.2⟩
    · have e : x ≠ s.b := fun e => by
        subst e
        rw [← List.count_pos_iff] at hx; omega
      obtain ⟨t, ht, rfl⟩ := hbal.mem x ((hmo x e).1 hx)
      exact ⟨t, (hm t).2 ⟨ht, e⟩, rfl⟩

theorem sets_le : ∀ (st : List Bucket), ∀ B ∈ st, B.sets.length ≤ (setsOf st).length
  | [], B, h => by simp at h
  | C :: r, B, h => by
    simp only [setsOf, List.flatMap_cons, List.length_append]
    rcases List.mem_cons.1 h with rfl | h
    · omega
    · have := sets_le r B h
      unfold setsOf at this; omega

theorem Bal.bounds {st : List Bucket} {bs : List Nat} (h : Bal st bs) {N : Nat} (h1 : bs.length ≤ N) (h2 : (setsOf st).length ≤ N) (hN : N ≤ 1048576) : ∀ B ∈ st, B.sets.length ≤ 1048576 ∧ ∀ s ∈ B.sets, 0 ≤ s.n ∧ s.n ≤ 1048576 := fun B hB => by
  refine ⟨Nat.le_trans (sets_le st B hB) (by omega), fun s hs => ?_⟩
  have := (h.cnt s (List.mem_flatMap.2 ⟨B, hB, hs⟩)).1
  have hl : bs.count s.b ≤ bs.length := List.count_le_length
  omega

theorem Bal.empty {w : World} {bc bm base : Nat} {st : List Bucket} (hc : Cache w bc bm base st) (h : Bal st []) : st = [] := by
  cases st with
  | nil => rfl
  | cons B r =>
    exfalso
    have hne := hc.ne B (by simp)
    obtain ⟨s, hs⟩ := List.exists_mem_of_ne_nil _ hne
    have := (h.cnt s (List.mem_flatMap.2 ⟨B, by simp, hs⟩)).2
    simp at this

end Go.Proofs.Qxb6604108a
