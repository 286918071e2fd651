import Derived.Test.Qxb6604108aF3
namespace Go.Proofs.Qxb6604108a
open Go.RowKit
set_option linter.unusedVariables false
set_option linter.unusedSimpArgs false

theorem ROwn.ownk {T : TypeId} {f : Nat → Value} {w : World} {g n k : Nat} {bs : List Nat} (h : ROwn T f w g n bs) (hk : bs.length = k) : w.ownsRow 0 T 1 (.slice (some ⟨g, 0, none⟩) k n) k (bs.map f) := by
  subst hk; exact h.own

theorem hold5_pack {w2 wa w4 : World} {q t n li b : Nat} {Hl Fl El : List Nat} {st st' : List Bucket} {ls Kl : List (List Key)} {ks : List Key} (hm : Mem w2 wa n st Hl Fl El) (hg : Lg t ls st Hl Fl El Kl) (hli : ls[li]? = some ks)
    (hc4 : Cache w4 (w2.heap.size + 1) w2.heap.size (w2.heap.size + 5) st') (hh : HeldBy st ks b (wa.drewN q).heap.size st') (ho : Off (fun k => k = w2.heap.size ∨ w2.heap.size + 5 ≤ k) (wa.drewN q) w4) :
    ∃ s : KS, s.b = b ∧ s.keys = ks ∧ s ∈ setsOf st' ∧ Mem w2 w4 n st' Hl Fl El ∧ Lg (t + 1) ls st' (Hl ++ [b]) (Fl ++ [li]) (El ++ [b]) (Kl ++ [ks]) ∧ (∀ j, j < Hl.length → Kl[j]? = some ks → Hl[j]? = some b) ∧ ((∀ j, j < Hl.length → Kl[j]? ≠ some ks) → El.count b = 0) ∧ w2.heap.size + 5 ≤ b ∧ IsSet w4 b := by
  have hmq := hm.drewN q
  obtain ⟨h1, ⟨s, hs, hsb, hsk⟩, h3, h4⟩ := hg.hold hmq.cache hli hh (fun x hx => (hmq.evs x hx).2.lt)
  refine ⟨s, hsb, hsk, hs, hmq.off ho hc4, h1, h3, h4, ?_⟩
  rw [← hsb]; exact (hc4.blkOf hs).isSet

theorem Lg.bounds {t : Nat} {ls : List (List Key)} {st : List Bucket} {Hl Fl El : List Nat} {Kl : List (List Key)} (h : Lg t ls st Hl Fl El Kl) (ht : t ≤ 1048576) : ∀ B ∈ st, B.sets.length ≤ 1048576 ∧ ∀ s ∈ B.sets, 0 ≤ s.n ∧ s.n ≤ 1048576 :=
  h.bal.bounds h.lenH h.nsets ht

/-- Where the search for a held equal list looks. -/
theorem Lg.search {t : Nat} {ls : List (List Key)} {st : List Bucket} {Hl Fl El : List Nat} {Kl : List (List Key)} (h : Lg t ls st Hl Fl El Kl) {j : Nat} (hj : j < Hl.length) : ∃ li b ks, Fl[j]? = some li ∧ Hl[j]? = some b ∧ ls[li]? = some ks ∧ Kl[j]? = some ks ∧ li < ls.length := by
  have hf : Fl[j]? = some (Fl[j]'(by rw [h.lenF]; exact hj)) := List.getElem?_eq_getElem _
  obtain ⟨ks, e1, e2⟩ := h.frs j _ hf
  exact ⟨_, _, ks, hf, List.getElem?_eq_getElem hj, e1, e2, (List.getElem?_eq_some_iff.1 e1).1⟩

theorem shv_end {H hs : List Nat} {q m : Nat} (hl : hs.length = m + 1) (hq : q ≤ m) (hL : H.length = m + 1) (h : ∀ p, p < m + 1 → H[p]? = some (shv hs q m p)) : H.take m = hs.eraseIdx q := by
  apply List.ext_getElem?
  intro p
  rw [List.getElem?_take, List.getElem?_eraseIdx]
  by_cases hp : p < m
  · rw [if_pos hp, h p (by omega)]
    unfold shv
    by_cases hpq : p < q
    · rw [if_pos hpq, if_neg (by omega)]
      simp [List.getD, List.getElem?_eq_getElem (show p < hs.length by omega)]
    · rw [if_neg hpq, if_pos (by omega)]
      simp [List.getD, List.getElem?_eq_getElem (show p + 1 < hs.length by omega)]
  · rw [if_neg hp, if_neg (by omega), List.getElem?_eq_none (by omega)]

theorem shv_set {H hs : List Nat} {q m kh : Nat} (hl : hs.length = kh) (hq : q ≤ m) (hm : m + 1 < kh) (h : ∀ p, p < kh → H[p]? = some (shv hs q m p)) {x : Nat} (hx : hs[m + 1]? = some x) : ∀ p, p < kh → (H.set m x)[p]? = some (shv hs q (m + 1) p) := fun p hp => by
  rw [shv_step hs q m p hq, List.getElem?_set]
  by_cases hpm : m = p
  · subst hpm
    rw [if_pos rfl, if_pos rfl, if_pos (by have := h m hp; exact (List.getElem?_eq_some_iff.1 this).1)]
    simp [List.getD, hx]
  · rw [if_neg hpm, if_neg (fun e => hpm e.symm)]; exact h p hp

theorem shv_next {H hs : List Nat} {q m kh : Nat} (hm : m + 1 < kh) (h : ∀ p, p < kh → H[p]? = some (shv hs q m p)) {x : Nat} (hx : hs[m + 1]? = some x) : H[m + 1]? = some x := by
  rw [h (m + 1) hm]; unfold shv; rw [if_neg (by omega)]; simp [List.getD, hx]

theorem Bal.at {st : List Bucket} {L : List Nat} (h : Bal st L) {q b : Nat} (hq : L[q]? = some b) : ∃ (j i : Nat) (B : Bucket) (s : KS), st[j]? = some B ∧ B.sets[i]? = some s ∧ s.b = b ∧ s.n = ((L.eraseIdx q).count b : Nat) + 1 := by
  obtain ⟨s, hs, e⟩ := h.mem b (List.mem_of_getElem? hq)
  have hn := (h.cnt s hs).1
  obtain ⟨j, B, hB, ht⟩ := mem_setsOf.1 hs
  obtain ⟨i, hi⟩ := List.getElem?_of_mem ht
  refine ⟨j, i, B, s, hB, hi, e, ?_⟩
  rw [hn, e, count_eraseIdx L q b hq b, if_pos rfl]; rfl

theorem rel5_pack {w2 wr w4 : World} {q t n b c : Nat} {Hl Fl El H' F' : List Nat} {st st3 : List Bucket} {ls Kl : List (List Key)} {j i : Nat} {B : Bucket} {s : KS} (hm : Mem w2 wr n st H' F' El) (hg : Lg t ls st Hl Fl El Kl) (eH : H' = Hl.eraseIdx q) (eF : F' = Fl.eraseIdx q) (hq : Hl[q]? = some b) (hB : st[j]? = some B) (hs : B.sets[i]? = some s) (hsb : s.b = b) (hcn : H'.count b = c)
    (hsn : s.n = (c : Nat) + 1) (h1 : Cache w4 (w2.heap.size + 1) w2.heap.size (w2.heap.size + 5) st3) (h2 : RelAt st j i B s st3) (h3 : SetAt w4 (w2.heap.size + 5) ⟨b, s.keys, s.n - 1⟩) (h4 : Off (fun k => k = w2.heap.size ∨ w2.heap.size + 5 ≤ k) wr w4) :
    ∃ t' : KS, t'.b = b ∧ t'.n = ((c : Nat) : Int) ∧ SetAt w4 (w2.heap.size + 5) t' ∧ Mem w2 w4 n st3 H' F' El ∧ Lg t ls st3 H' F' El (Kl.eraseIdx q) ∧ inSt st3 b = decide (0 < c) := by
  refine ⟨⟨b, s.keys, s.n - 1⟩, rfl, by simp only; omega, h3, hm.off h4 h1, ?_, inSt_after hm.cache hB hs hsb h2 hsn⟩
  rw [eH, eF]
  exact hg.release hm.cache h1.blocks hq hB hs hsb h2

end Go.Proofs.Qxb6604108a
