import Derived.Test.Qxb6604108aSteps
import Derived.Test.Qxb6604108aR2
namespace Go.Proofs.Qxb6604108a
open Go.RowKit
set_option linter.unusedVariables false
set_option linter.unusedSimpArgs false

theorem setsOf_sub_set : ∀ {st : List Bucket} {j : Nat} {B : Bucket} (fp : Int) (v' : Value) (ss : List KS), st[j]? = some B → ss.Sublist B.sets → (setsOf (st.set j ⟨fp, v', ss⟩)).Sublist (setsOf st)
  | [], j, B, _, _, _, h, _ => by simp at h
  | C :: st, 0, B, fp, v', ss, h, hs => by
    simp at h; subst h
    simp only [setsOf, List.set_cons_zero, List.flatMap_cons]
    exact hs.append (List.Sublist.refl _)
  | C :: st, j + 1, B, fp, v', ss, h, hs => by
    simp at h
    simp only [setsOf, List.set_cons_succ, List.flatMap_cons]
    exact (List.Sublist.refl _).append (setsOf_sub_set fp v' ss h hs)
theorem setsOf_sub_erase : ∀ (st : List Bucket) (j : Nat), (setsOf (st.eraseIdx j)).Sublist (setsOf st)
  | [], j => by simp [setsOf]
  | C :: st, 0 => by
    simp only [setsOf, List.eraseIdx_cons_zero, List.flatMap_cons]
    exact List.sublist_append_right _ _
  | C :: st, j + 1 => by
    simp only [setsOf, List.eraseIdx_cons_succ, List.flatMap_cons]
    exact (List.Sublist.refl _).append (setsOf_sub_erase st j)

theorem erase_shv (ss : List KS) (i m q : Nat) (hm : ss.length = m) (hi : i < m) (hq : q < m - 1) : ((ss.eraseIdx i).map ptr)[q]? = some (P0 (shv (ss.map (·.b)) i (m - 1) q)) := by
  rw [List.getElem?_map, List.getElem?_eraseIdx]
  unfold shv
  by_cases h : q < i
  · rw [if_pos h, if_neg (by omega), List.getElem?_eq_getElem (by omega)]
    simp [List.getD, P0, ptr, show q < ss.length by omega]
  · rw [if_neg h, if_pos (by omega), List.getElem?_eq_getElem (by omega)]
    simp [List.getD, P0, ptr, show q + 1 < ss.length by omega]

/-- The cache behind the loss of one set: w2: ahead; w3: the bucket's row is closed up; w4: the map is written. -/
theorem cache_drop {w2 w3 w4 : World} {bc bm base : Nat} {st : List Bucket} (hc : Cache w2 bc bm base st) {j i : Nat} {B : Bucket} {s : KS} (hB : st[j]? = some B) (hs : B.sets[i]? = some s) {g cap : Nat} (hv : B.v = .slice (some ⟨g, 0, none⟩) B.sets.length cap)
    (hblk : ∃ cur', w3.heap[g]? = some (.cells cur' 29 (0, 0)) ∧ cur'.size = cap ∧ ∀ q, q < B.sets.length - 1 → cur'[q]? = some (P0 (shv (B.sets.map (·.b)) i (B.sets.length - 1) q))) (hg3 : w2.grownBy w3 (some g)) (hg4 : w3.grownBy w4 (some bm))
    {st' : List Bucket} (hst : (B.sets.length = 1 ∧ st' = st.eraseIdx j) ∨ (1 < B.sets.length ∧ st' = st.set j ⟨B.fp, .slice (some ⟨g, 0, none⟩) (B.sets.length - 1) cap, B.sets.eraseIdx i⟩)) (hm4 : mapIs w4 bm (mapOf st')) :
    Cache w4 bc bm base st' ∧ SetAt w4 base s ∧ Off (fun k => k = bm ∨ base ≤ k) w2 w4 := by
  have mB := List.mem_of_getElem? hB
  have ms := List.mem_of_getElem? hs
  have hlbc := hc.lbc
  have hlbm := hc.lbm
  have hlsz := hc.lsz
  have s3 := hg3.size
  have s4 := hg4.size
  have hil : i < B.sets.length := (List.getElem?_eq_some_iff.1 hs).1
  have hgb : base ≤ g := ((hc.row B mB).lt g (by rw [hv]; rfl)).1
  have hglt : g < w2.heap.size := ((hc.row B mB).lt g (by rw [hv]; rfl)).2
  obtain ⟨hcapl, hnc⟩ : cap ≤ maxLen ∧ B.sets.length ≤ cap := by
    rcases (hc.row B mB).2 with ⟨h1, _⟩ | ⟨g', c', cur, h1, _, _, h2, h3, _⟩
    · rw [hv] at h1; cases h1
    · rw [hv] at h1; cases h1; exact ⟨h3, h2⟩
  obtain ⟨cur0, hcur0⟩ : ∃ cur, w2.heap[g]? = some (.cells cur 29 (0, 0)) := by
    rcases (hc.row B mB).2 with ⟨h1, _⟩ | ⟨g', c', cur, h1, _, h2, _⟩
    · rw [hv] at h1; cases h1
    · rw [hv] at h1; cases h1; exact ⟨cur, h2⟩
  have k2 : ∀ k, k < w2.heap.size → ¬ (k = g ∨ k = bm) → w4.heap[k]? = w2.heap[k]? := fun k hk h => by
    rw [hg4.block k (by omega) (fun e => h (Or.inr (Option.some.inj e))), hg3.block k hk (fun e => h (Or.inl (Option.some.inj e)))]
  have kset : ∀ t, SetAt w2 base t → SetAt w4 base t := fun t ht => by
    refine ht.kept (S := fun k => k = g ∨ k = bm) k2 ?_ ?_ ?_
    · rintro (h | h)
      · obtain ⟨_, _, a, cap, sm, e1, _⟩ := ht
        rw [h, hcur0] at e1; cases e1
      · have := ht.1; omega
    · rintro k cur (rfl | rfl) h56
      · rw [h56] at hcur0; cases hcur0
      · obtain ⟨es, cl, e1, _⟩ := hc.map
        rw [e1] at h56; cases h56
    · rintro k (rfl | rfl) hk hmm
      · rw [hmm] at hcur0; cases hcur0
      · omega
  have krow : ∀ C ∈ st, C.v.ownBlock ≠ some g → w4.ownsRow base 29 1 C.v C.sets.length (C.sets.map ptr) := fun C hC hne => by
    refine row_kept (hc.row C hC) (S := fun k => k = g ∨ k = bm) k2 ?_
    rintro k (rfl | rfl) hu
    · exact hne hu
    · have := ((hc.row C hC).lt k hu).1; omega
  have hother : ∀ q C, st[q]? = some C → q ≠ j → C.v.ownBlock ≠ some g := fun q C hq hqj e =>
    hqj (nodup_getElem? hc.rows (x := some g) (by simp [hq, e]) (by rw [List.getElem?_map, hB, Option.map_some, hv]; rfl))
  have hbox : w4.heap[bc]? = some (.cells #[.map (some bm)] 52 (0, 0)) := by
    rw [k2 bc (by omega) (by
      rintro (h | h)
      · omega
      · obtain ⟨es, cl, e1, _⟩ := hc.map
        have := hc.box
        subst h; rw [e1] at this; cases this)]
    exact hc.box
  have hoff : Off (fun k => k = bm ∨ base ≤ k) w2 w4 := by
    refine ⟨hg4.os.trans hg3.os, hg4.tape.trans hg3.tape, hg4.output.trans hg3.output, by omega, fun k hk hn => k2 k hk ?_, fun x hx => hx.keep (k2 x hx.lt ?_)⟩
    · rintro (h | h)
      · subst h; exact hn (Or.inr hgb)
      · exact hn (Or.inl h)
    · obtain ⟨cx, ex⟩ := hx
      rintro (h | h)
      · rw [h, hcur0] at ex; cases ex
      · obtain ⟨es, cl, e1, _⟩ := hc.map
        rw [h, e1] at ex; cases ex
  refine ⟨?_, kset s (hc.set B mB s ms).1, hoff⟩
  rcases hst with ⟨hl1, rfl⟩ | ⟨hl1, rfl⟩
  · have hmem : ∀ C ∈ st.eraseIdx j, ∃ q, q ≠ j ∧ st[q]? = some C := fun C hC => by
      obtain ⟨q, hq⟩ := List.getElem?_of_mem hC
      rw [List.getElem?_eraseIdx] at hq
      split at hq
      · exact ⟨q, by omega, hq⟩
      · exact ⟨q + 1, by omega, hq⟩
    refine ⟨hlbc, hlbm, by omega, hbox, hm4, ?_, ?_, ?_, ?_, ?_, ?_⟩
    · intro C hC
      obtain ⟨q, hq1, hq2⟩ := hmem C hC
      exact krow C (List.mem_of_getElem? hq2) (hother q C hq2 hq1)
    · intro C hC t ht
      obtain ⟨q, hq1, hq2⟩ := hmem C hC
      obtain ⟨h1, h2⟩ := hc.set C (List.mem_of_getElem? hq2) t ht
      exact ⟨kset t h1, h2⟩
    · intro C hC
      obtain ⟨q, hq1, hq2⟩ := hmem C hC
      exact hc.ne C (List.mem_of_getElem? hq2)
    · exact hc.fps.sublist ((List.eraseIdx_sublist st j).map _)
    · exact hc.rows.sublist ((List.eraseIdx_sublist st j).map _)
    · exact hc.blocks.sublist ((setsOf_sub_erase st j).map _)
  · have hnewrow : w4.ownsRow base 29 1 (.slice (some ⟨g, 0, none⟩) (B.sets.length - 1) cap) (B.sets.eraseIdx i).length ((B.sets.eraseIdx i).map ptr) := by
      obtain ⟨cur', e1, e2, e3⟩ := hblk
      have hel : (B.sets.eraseIdx i).length = B.sets.length - 1 := List.length_eraseIdx_of_lt hil
      rw [hel]
      refine ⟨by simp [hel], Or.inr ⟨g, cap, cur', rfl, hgb, ?_, by omega, hcapl, by omega, ?_⟩⟩
      · rw [hg4.block g (by omega) (fun e => by have := Option.some.inj e; omega)]; exact e1
      · apply List.ext_getElem?
        intro q
        rw [List.getElem?_take]
        by_cases hq : q < B.sets.length - 1
        · rw [if_pos (by omega), Array.getElem?_toList, e3 q hq, erase_shv B.sets i _ q rfl hil hq]
        · rw [if_neg (by omega), List.getElem?_eq_none (by simp [hel]; omega)]
    refine ⟨hlbc, hlbm, by omega, hbox, hm4, ?_, ?_, ?_, ?_, ?_, ?_⟩
    · intro C hC
      rcases mem_set_iff hC with rfl | ⟨q, hqj, hq⟩
      · exact hnewrow
      · exact krow C (List.mem_of_getElem? hq) (hother q C hq hqj)
    · intro C hC t ht
      rcases mem_set_iff hC with rfl | ⟨q, hqj, hq⟩
      · obtain ⟨h1, h2⟩ := hc.set B mB t (List.mem_of_mem_eraseIdx ht)
        exact ⟨kset t h1, h2⟩
      · obtain ⟨h1, h2⟩ := hc.set C (List.mem_of_getElem? hq) t ht
        exact ⟨kset t h1, h2⟩
    · intro C hC
      rcases mem_set_iff hC with rfl | ⟨q, hqj, hq⟩
      · intro h
        have := congrArg List.length h
        rw [List.length_eraseIdx_of_lt hil] at this
        simp at this; omega
      · exact hc.ne C (List.mem_of_getElem? hq)
    · rw [map_set_same (·.fp) hB (by rfl)]; exact hc.fps
    · rw [map_set_same (fun b : Bucket => b.v.ownBlock) hB (by simp only; rw [hv]; rfl)]; exact hc.rows
    · exact hc.blocks.sublist ((setsOf_sub_set B.fp _ _ hB (List.eraseIdx_sublist _ _)).map _)

end Go.Proofs.Qxb6604108a
