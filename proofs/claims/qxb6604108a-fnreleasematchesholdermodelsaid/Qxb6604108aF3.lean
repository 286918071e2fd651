import Derived.Test.Qxb6604108aF2
namespace Go.Proofs.Qxb6604108a
open Go.RowKit
set_option linter.unusedVariables false
set_option linter.unusedSimpArgs false

/-- A row of one-cell values that is filled from the front. -/
def ROwn (T : TypeId) (f : Nat → Value) (w : World) (g n : Nat) (bs : List Nat) : Prop :=
  n ≤ 4096 ∧ bs.length ≤ n ∧ ∃ cur, w.heap[g]? = some (.cells cur T (0, 0)) ∧ cur.size = n ∧ ∀ (j b : Nat), bs[j]? = some b → cur[j]? = some (f b)

def I0 (x : Nat) : Value := .int .i64 (x : Nat)

section
variable {T : TypeId} {f : Nat → Value} {w w' : World} {g n : Nat} {bs : List Nat}

theorem ROwn.own (h : ROwn T f w g n bs) : w.ownsRow 0 T 1 (.slice (some ⟨g, 0, none⟩) bs.length n) bs.length (bs.map f) := by
  obtain ⟨hn, hl, cur, h1, h2, h3⟩ := h
  refine ⟨by simp, Or.inr ⟨g, n, cur, rfl, Nat.zero_le _, h1, hl, by unfold maxLen; omega, by omega, ?_⟩⟩
  apply List.ext_getElem?
  intro j
  rw [Nat.mul_one, List.getElem?_take, List.getElem?_map, Array.getElem?_toList]
  by_cases hj : j < bs.length
  · rw [if_pos hj, List.getElem?_eq_getElem hj, h3 j _ (List.getElem?_eq_getElem hj)]; rfl
  · rw [if_neg hj, List.getElem?_eq_none (by omega)]; rfl
theorem ROwn.of_own {k : Nat} (hn : n ≤ 4096) (hl : bs.length = k) (h : w.ownsRow 0 T 1 (.slice (some ⟨g, 0, none⟩) k n) k (bs.map f)) : ROwn T f w g n bs := by
  subst hl
  rcases h.2 with ⟨h1, _⟩ | ⟨g', cap, cur, h1, _, h3, h4, _, h6, h7⟩
  · cases h1
  · cases h1
    refine ⟨hn, h4, cur, h3, by omega, fun j b hj => ?_⟩
    have hjl : j < bs.length := (List.getElem?_eq_some_iff.1 hj).1
    have := congrArg (·[j]?) h7
    simp only [List.getElem?_take, Nat.mul_one, List.getElem?_map, hj, Array.getElem?_toList] at this
    rw [if_pos (by omega)] at this
    exact this
theorem ROwn.lt (h : ROwn T f w g n bs) : g < w.heap.size := by obtain ⟨_, _, cur, h1, _⟩ := h; exact lt_of_blk h1
theorem ROwn.keep (h : ROwn T f w g n bs) (e : w'.heap[g]? = w.heap[g]?) : ROwn T f w' g n bs := by
  obtain ⟨a, b, cur, h1, h2⟩ := h
  exact ⟨a, b, cur, e.trans h1, h2⟩
theorem ROwn.cell (h : ROwn T f w g n bs) {j b : Nat} (hb : bs[j]? = some b) : w.cell? ⟨g, j, none⟩ = some (f b) := by
  obtain ⟨_, _, cur, h1, _, h3⟩ := h
  rw [cell_of_block h1]; exact h3 j b hb
theorem ROwn.free (h : ROwn T f w g n bs) (j : Nat) : w.frozen? ⟨g, j, none⟩ = false := by
  obtain ⟨_, _, cur, h1, _⟩ := h; exact free_of_block h1 j
theorem ROwn.set (h : ROwn T f w g n bs) (k x : Nat) : ROwn T f (w.setCell ⟨g, k, none⟩ (f x)) g n (bs.set k x) := by
  obtain ⟨a, b, cur, h1, h2, h3⟩ := h
  refine ⟨a, by simpa using b, _, block_setCell h1 _ _, by simpa using h2, fun j y hy => ?_⟩
  rw [Array.getElem?_setIfInBounds]
  rw [List.getElem?_set] at hy
  by_cases hjk : k = j
  · subst hjk
    rw [if_pos rfl] at hy ⊢
    split at hy
    · rename_i hk; rw [if_pos (by omega)]; cases hy; rfl
    · cases hy
  · rw [if_neg hjk] at hy ⊢
    exact h3 j y hy
theorem ROwn.take (h : ROwn T f w g n bs) (k : Nat) : ROwn T f w g n (bs.take k) := by
  obtain ⟨a, b, cur, h1, h2, h3⟩ := h
  refine ⟨a, by simp; omega, cur, h1, h2, fun j y hy => ?_⟩
  rw [List.getElem?_take] at hy
  split at hy
  · exact h3 j y hy
  · cases hy
theorem ROwn.start (hn : n ≤ 4096) {v : Value} (h : w.heap[g]? = some (.cells (repl n v) T (0, 0))) : ROwn T f w g n [] := ⟨hn, Nat.zero_le _, _, h, repl_size _ _, fun j b h => by simp at h⟩
end

/-- The memory while the law runs: the cache, the rows 'held', 'from', 'ever'. -/
structure Mem (w2 w : World) (n : Nat) (st : List Bucket) (hs fr ev : List Nat) : Prop where
  cache : Cache w (w2.heap.size + 1) w2.heap.size (w2.heap.size + 5) st
  rowH : ROwn 29 P0 w (w2.heap.size + 2) n hs
  rowF : ROwn 3 I0 w (w2.heap.size + 3) n fr
  rowE : ROwn 29 P0 w (w2.heap.size + 4) n ev
  evs : ∀ x ∈ ev, w2.heap.size + 5 ≤ x ∧ IsSet w x
  bel : Below w2.heap.size w2 w

section
variable {w2 w w' : World} {n : Nat} {st st' : List Bucket} {hs fr ev : List Nat}

theorem Mem.below (h : Mem w2 w n st hs fr ev) (hb : Below w.heap.size w w') : Mem w2 w' n st hs fr ev :=
  ⟨h.cache.below hb, h.rowH.keep (hb.block _ h.rowH.lt), h.rowF.keep (hb.block _ h.rowF.lt), h.rowE.keep (hb.block _ h.rowE.lt),
   fun x hx => ⟨(h.evs x hx).1, (h.evs x hx).2.keep (hb.block _ (h.evs x hx).2.lt)⟩, h.bel.trans (hb.mono h.bel.size)⟩
theorem Mem.drewN (h : Mem w2 w n st hs fr ev) (q : Nat) : Mem w2 (w.drewN q) n st hs fr ev := h.below ⟨rfl, rfl, rfl, Nat.le_refl _, fun _ _ => rfl⟩
theorem Mem.off (h : Mem w2 w n st hs fr ev) (ho : Off (fun k => k = w2.heap.size ∨ w2.heap.size + 5 ≤ k) w w') (hc : Cache w' (w2.heap.size + 1) w2.heap.size (w2.heap.size + 5) st') : Mem w2 w' n st' hs fr ev :=
  ⟨hc, h.rowH.keep (ho.block _ h.rowH.lt (by omega)), h.rowF.keep (ho.block _ h.rowF.lt (by omega)), h.rowE.keep (ho.block _ h.rowE.lt (by omega)),
   fun x hx => ⟨(h.evs x hx).1, ho.sets x (h.evs x hx).2⟩, h.bel.trans (ho.below h.bel.size (fun j hj => by omega))⟩

/-- An append to one of the three rows. -/
theorem Mem.grow {o : Obj} {i : Nat} (hi : i = 2 ∨ i = 3 ∨ i = 4) (h : Mem w2 w n st hs fr ev) (hg : (w.alloc o).grownBy w' (some (w2.heap.size + i))) :
    Cache w' (w2.heap.size + 1) w2.heap.size (w2.heap.size + 5) st ∧ (∀ j, j < w.heap.size → j ≠ w2.heap.size + i → w'.heap[j]? = w.heap[j]?) ∧ (∀ x ∈ ev, w2.heap.size + 5 ≤ x ∧ IsSet w' x) ∧ Below w2.heap.size w2 w' := by
  have hb : ∀ j, j < w.heap.size → j ≠ w2.heap.size + i → w'.heap[j]? = w.heap[j]? := fun j hj hne => by
    rw [hg.block j (by simp; omega) (fun e => hne (Option.some.inj e)), Below.heap_alloc _ _ _ hj]
  refine ⟨h.cache.keep (by have := hg.size; simp at this; omega) (fun j hj hh => hb j hj (by omega)), hb, fun x hx => ?_, ?_⟩
  · obtain ⟨h1, h2⟩ := h.evs x hx
    exact ⟨h1, h2.keep (hb x h2.lt (by omega))⟩
  · have hl4 := h.cache.lsz
    exact (h.bel.alloc h.bel.size o).grown hg (by simp; omega) (fun j hj => by have := Option.some.inj hj; omega)

theorem Mem.pushH {o : Obj} {b k : Nat} (h : Mem w2 w n st hs fr ev) (hk : hs.length = k) (hg : (w.alloc o).grownBy w' (some (w2.heap.size + 2))) (hown : w'.ownsRow 0 29 1 (.slice (some ⟨w2.heap.size + 2, 0, none⟩) (k + 1) n) (k + 1) (hs.map P0 ++ [P0 b])) : Mem w2 w' n st (hs ++ [b]) fr ev := by
  obtain ⟨h1, h2, h3, h4⟩ := h.grow (Or.inl rfl) hg
  exact ⟨h1, ROwn.of_own h.rowH.1 (k := k + 1) (by simp [hk]) (by rw [List.map_append]; exact hown), h.rowF.keep (h2 _ h.rowF.lt (by omega)), h.rowE.keep (h2 _ h.rowE.lt (by omega)), h3, h4⟩
theorem Mem.pushF {o : Obj} {b k : Nat} (h : Mem w2 w n st hs fr ev) (hk : fr.length = k) (hg : (w.alloc o).grownBy w' (some (w2.heap.size + 3))) (hown : w'.ownsRow 0 3 1 (.slice (some ⟨w2.heap.size + 3, 0, none⟩) (k + 1) n) (k + 1) (fr.map I0 ++ [I0 b])) : Mem w2 w' n st hs (fr ++ [b]) ev := by
  obtain ⟨h1, h2, h3, h4⟩ := h.grow (Or.inr (Or.inl rfl)) hg
  exact ⟨h1, h.rowH.keep (h2 _ h.rowH.lt (by omega)), ROwn.of_own h.rowF.1 (k := k + 1) (by simp [hk]) (by rw [List.map_append]; exact hown), h.rowE.keep (h2 _ h.rowE.lt (by omega)), h3, h4⟩
theorem Mem.pushE {o : Obj} {b k : Nat} (h : Mem w2 w n st hs fr ev) (hk : ev.length = k) (hg : (w.alloc o).grownBy w' (some (w2.heap.size + 4))) (hb : w2.heap.size + 5 ≤ b ∧ IsSet w b) (hown : w'.ownsRow 0 29 1 (.slice (some ⟨w2.heap.size + 4, 0, none⟩) (k + 1) n) (k + 1) (ev.map P0 ++ [P0 b])) : Mem w2 w' n st hs fr (ev ++ [b]) := by
  obtain ⟨h1, h2, h3, h4⟩ := h.grow (Or.inr (Or.inr rfl)) hg
  refine ⟨h1, h.rowH.keep (h2 _ h.rowH.lt (by omega)), h.rowF.keep (h2 _ h.rowF.lt (by omega)), ROwn.of_own h.rowE.1 (k := k + 1) (by simp [hk]) (by rw [List.map_append]; exact hown), fun x hx => ?_, h4⟩
  rcases List.mem_append.1 hx with hx | hx
  · exact h3 x hx
  · simp at hx; subst hx
    exact ⟨hb.1, hb.2.keep (h2 x hb.2.lt (by omega))⟩

theorem Mem.setH (h : Mem w2 w n st hs fr ev) (k x : Nat) : Mem w2 (w.setCell ⟨w2.heap.size + 2, k, none⟩ (P0 x)) n st (hs.set k x) fr ev :=
  ⟨h.cache.setBeside (by omega) (by omega) (by omega) _, h.rowH.set k x, h.rowF.keep (Below.heap_setCell _ _ _ _ (by simp)), h.rowE.keep (Below.heap_setCell _ _ _ _ (by simp)),
   fun y hy => ⟨(h.evs y hy).1, (h.evs y hy).2.setCell _ _⟩, h.bel.setCell (by simp) _⟩
theorem Mem.setF (h : Mem w2 w n st hs fr ev) (k x : Nat) : Mem w2 (w.setCell ⟨w2.heap.size + 3, k, none⟩ (I0 x)) n st hs (fr.set k x) ev :=
  ⟨h.cache.setBeside (by omega) (by omega) (by omega) _, h.rowH.keep (Below.heap_setCell _ _ _ _ (by simp)), h.rowF.set k x, h.rowE.keep (Below.heap_setCell _ _ _ _ (by simp)),
   fun y hy => ⟨(h.evs y hy).1, (h.evs y hy).2.setCell _ _⟩, h.bel.setCell (by simp) _⟩
theorem Mem.take (h : Mem w2 w n st hs fr ev) (k : Nat) : Mem w2 w n st (hs.take k) (fr.take k) ev := ⟨h.cache, h.rowH.take k, h.rowF.take k, h.rowE, h.evs, h.bel⟩

theorem Mem.preadsH (h : Mem w2 w n st hs fr ev) (hb : Bal st hs) : PReads w (some ⟨w2.heap.size + 2, 0, none⟩) hs := fun i hi =>
  ⟨_, 0, rfl, h.rowH.lt, fun j b hj => ⟨by rw [Nat.zero_add]; exact h.rowH.cell hj, (hb.handle h.cache b (List.mem_of_getElem? hj)).blk⟩⟩
theorem IsSet.blk {b : Nat} (h : IsSet w b) : IsBlk w b := by obtain ⟨cur, h⟩ := h; exact ⟨cur, _, h⟩
theorem Mem.preadsE (h : Mem w2 w n st hs fr ev) : PReads w (some ⟨w2.heap.size + 4, 0, none⟩) ev := fun i hi =>
  ⟨_, 0, rfl, h.rowE.lt, fun j b hj => ⟨by rw [Nat.zero_add]; exact h.rowE.cell hj, (h.evs b (List.mem_of_getElem? hj)).2.blk⟩⟩
theorem SetAt.isSet {base : Nat} {s : KS} (h : SetAt w base s) : base ≤ s.b ∧ IsSet w s.b := by
  obtain ⟨h1, _, a, cap, sm, e1, _⟩ := h; exact ⟨h1, _, e1⟩
end

/-! ### The model of handles -/
structure Lg (t : Nat) (ls : List (List Key)) (st : List Bucket) (hs fr ev : List Nat) (kl : List (List Key)) : Prop where
  bal : Bal st hs
  kv : Kv st hs kl
  lenF : fr.length = hs.length
  lenK : kl.length = hs.length
  frs : ∀ (j li : Nat), fr[j]? = some li → ∃ ks, ls[li]? = some ks ∧ kl[j]? = some ks
  lenH : hs.length ≤ t
  lenE : ev.length ≤ t
  nsets : (setsOf st).length ≤ t

theorem lg_nil (ls : List (List Key)) : Lg 0 ls [] [] [] [] [] := ⟨bal_nil, kv_nil _, rfl, rfl, fun j li h => by simp at h, Nat.le_refl _, Nat.le_refl _, by simp [setsOf]⟩

theorem Lg.mono {t t' : Nat} {ls : List (List Key)} {st : List Bucket} {hs fr ev : List Nat} {kl : List (List Key)} (h : Lg t ls st hs fr ev kl) (ht : t ≤ t') : Lg t' ls st hs fr ev kl :=
  ⟨h.bal, h.kv, h.lenF, h.lenK, h.frs, Nat.le_trans h.lenH ht, Nat.le_trans h.lenE ht, Nat.le_trans h.nsets ht⟩

/-- A hold: what it answers, and the model behind it. -/
theorem Lg.hold {w : World} {bc bm base t : Nat} {ls : List (List Key)} {st st' : List Bucket} {hs fr ev : List Nat} {kl : List (List Key)} (hc : Cache w bc bm base st) (h : Lg t ls st hs fr ev kl) {li : Nat} {ks : List Key} (hli : ls[li]? = some ks) {b : Nat} (hh : HeldBy st ks b w.heap.size st') (hev : ∀ x ∈ ev, x < w.heap.size) :
    Lg (t + 1) ls st' (hs ++ [b]) (fr ++ [li]) (ev ++ [b]) (kl ++ [ks]) ∧ (∃ s ∈ setsOf st', s.b = b ∧ s.keys = ks) ∧ (∀ j, j < hs.length → kl[j]? = some ks → hs[j]? = some b) ∧ ((∀ j, j < hs.length → kl[j]? ≠ some ks) → ev.count b = 0) := by
  have hkv' : Kv st hs (kl ++ [ks]) := ⟨fun j x hx => by
    obtain ⟨s, hs1, hs2, hs3⟩ := h.kv.key j x hx
    have hj : j < kl.length := (List.getElem?_eq_some_iff.1 hs3).1
    exact ⟨s, hs1, hs2, by rw [List.getElem?_append_left hj]; exact hs3⟩, h.kv.dist⟩
  obtain ⟨k1, k2, ⟨s, hs1, hsb, hsk, hsn⟩, k4⟩ := hkv'.hold hc h.bal (ks := ks) (by rw [← h.lenK]; simp) hh rfl
  have hlen : (setsOf st').length ≤ t + 1 := by
    have := h.nsets
    rcases hh.view hc with ⟨_, _, _, _, _, h⟩ | ⟨_, _, _, h⟩ <;> omega
  refine ⟨⟨h.bal.hold hc hh, k4, by simp [h.lenF], by simp [h.lenK], fun j l hl => ?_, by have := h.lenH; simp; omega, by have := h.lenE; simp; omega, hlen⟩, ⟨s, hs1, hsb, hsk⟩, fun j hj e => k2 j hj ?_, fun hno => ?_⟩
  · by_cases hj : j < fr.length
    · rw [List.getElem?_append_left hj] at hl
      obtain ⟨ks', e1, e2⟩ := h.frs j l hl
      have hj2 : j < kl.length := (List.getElem?_eq_some_iff.1 e2).1
      exact ⟨ks', e1, by rw [List.getElem?_append_left hj2]; exact e2⟩
    · rw [List.getElem?_append_right (by omega)] at hl
      have hj0 : j = fr.length := by
        rcases Nat.eq_or_lt_of_le (Nat.le_of_not_lt hj) with h | h
        · exact h.symm
        · obtain ⟨q, hq⟩ : ∃ q, j - fr.length = q + 1 := ⟨j - fr.length - 1, by omega⟩
          rw [hq] at hl; simp at hl
      subst hj0
      simp at hl; subst hl
      exact ⟨ks, hli, by rw [h.lenF, ← h.lenK]; simp⟩
  · rw [List.getElem?_append_left (by rw [h.lenK]; exact hj)]; exact e
  · rcases hh.view hc with ⟨s0, hs0, hk0, _⟩ | ⟨_, hH, _⟩
    · exfalso
      have hb := (h.bal.cnt s0 hs0).2
      obtain ⟨j, hj⟩ := List.getElem?_of_mem hb
      obtain ⟨s1, h1, h2, h3⟩ := h.kv.key j _ hj
      have : s1 = s0 := set_uniq hc.blocks h1 hs0 h2
      subst this
      exact hno j (List.getElem?_eq_some_iff.1 hj).1 (by rw [h3, hk0])
    · exact List.count_eq_zero_of_not_mem fun hb => by have := hev b hb; omega

theorem count_eraseIdx (L : List Nat) (j b : Nat) (h : L[j]? = some b) (x : Nat) : L.count x = (L.eraseIdx j).count x + if x = b then 1 else 0 := by
  induction L generalizing j with
  | nil => simp at h
  | cons a L ih =>
    cases j with
    | zero =>
      simp at h; subst h
      simp only [List.eraseIdx_zero, List.tail_cons, List.count_cons]
      by_cases e : a = x
      · simp [e]
      · have e' : ¬ x = a := fun h => e h.symm
        simp [e, e']
    | succ j =>
      simp at h
      have := ih j h
      simp only [List.eraseIdx_cons_succ, List.count_cons]
      omega

/-- A release of handle j. -/
theorem Lg.release {w : World} {bc bm base t : Nat} {ls : List (List Key)} {st st' : List Bucket} {hs fr ev : List Nat} {kl : List (List Key)} (hc : Cache w bc bm base st) (hc' : ((setsOf st').map (·.b)).Nodup) (h : Lg t ls st hs fr ev kl) {q b : Nat} (hq : hs[q]? = some b) {j i : Nat} {B : Bucket} {s : KS} (hB : st[j]? = some B) (hs' : B.sets[i]? = some s) (hsb : s.b = b) (hr : RelAt st j i B s st') :
    Lg t ls st' (hs.eraseIdx q) (fr.eraseIdx q) ev (kl.eraseIdx q) := by
  have hql : q < hs.length := (List.getElem?_eq_some_iff.1 hq).1
  have hbal' : Bal st' (hs.eraseIdx q) := h.bal.release hc hB hs' hr (fun x => by rw [hsb]; exact count_eraseIdx hs q b hq x)
  obtain ⟨hv, hlen⟩ := hr.view hc hB hs'
  have hms : s ∈ setsOf st := mem_setsOf.2 ⟨j, B, hB, List.mem_of_getElem? hs'⟩
  have hold : ∀ z ∈ setsOf st', ∃ z' ∈ setsOf st, z'.b = z.b ∧ z'.keys = z.keys := fun z hz => by
    rcases hv with ⟨_, hm⟩ | ⟨_, hm⟩
    · rcases (hm z).1 hz with rfl | ⟨hz, _⟩
      · exact ⟨s, hms, rfl, rfl⟩
      · exact ⟨z, hz, rfl, rfl⟩
    · exact ⟨z, ((hm z).1 hz).1, rfl, rfl⟩
  have hl := List.length_eraseIdx_of_lt hql
  have hlf := List.length_eraseIdx_of_lt (l := fr) (i := q) (by rw [h.lenF]; exact hql)
  have hlk := List.length_eraseIdx_of_lt (l := kl) (i := q) (by rw [h.lenK]; exact hql)
  refine ⟨hbal', ⟨fun p x hx => ?_, fun x hx y hy e => ?_⟩, by rw [hl, hlf, h.lenF], by rw [hl, hlk, h.lenK], fun p li hp => ?_, by have := h.lenH; omega, h.lenE, Nat.le_trans hlen h.nsets⟩
  · obtain ⟨z, hz, hzb⟩ := hbal'.mem x (List.mem_of_getElem? hx)
    obtain ⟨z', hz', e1, e2⟩ := hold z hz
    refine ⟨z, hz, hzb, ?_⟩
    rw [List.getElem?_eraseIdx] at hx ⊢
    split at hx
    · rename_i hp
      rw [if_pos hp]
      obtain ⟨u, hu, hub, huk⟩ := h.kv.key p x hx
      have : u = z' := set_uniq hc.blocks hu hz' (by rw [hub, e1, hzb])
      rw [huk, this, e2]
    · rename_i hp
      rw [if_neg hp]
      obtain ⟨u, hu, hub, huk⟩ := h.kv.key (p + 1) x hx
      have : u = z' := set_uniq hc.blocks hu hz' (by rw [hub, e1, hzb])
      rw [huk, this, e2]
  · obtain ⟨x', hx', xb, xk⟩ := hold x hx
    obtain ⟨y', hy', yb, yk⟩ := hold y hy
    rw [← xb, ← yb]
    exact h.kv.dist x' hx' y' hy' (by rw [xk, yk, e])
  · rw [List.getElem?_eraseIdx] at hp ⊢
    split at hp
    · rename_i hpq; rw [if_pos hpq]; exact h.frs p li hp
    · rename_i hpq; rw [if_neg hpq]; exact h.frs (p + 1) li hp

end Go.Proofs.Qxb6604108a
