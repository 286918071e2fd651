import Derived.Test.Qxb6604108aBal
import Derived.Test.Qxb6604108aDed
namespace Go.Proofs.Qxb6604108a
open Go.RowKit
set_option linter.unusedVariables false
set_option linter.unusedSimpArgs false

/-- The fingerprint that lies in block b. -/
def fpAt (w : World) (b : Nat) : Int := match w.cell? ⟨b, 1, none⟩ with
  | some (.int _ x) => x
  | _ => 0

theorem fpAt_set {w : World} {base : Nat} {s : KS} (h : SetAt w base s) : fpAt w s.b = fpOf s.keys ∧ w.cell? ⟨s.b, 1, none⟩ = some (.int .u64 (fpAt w s.b)) := by
  obtain ⟨_, _, _, _, c1, _⟩ := h.cells
  have : fpAt w s.b = fpOf s.keys := by unfold fpAt; rw [c1]
  exact ⟨this, by rw [this]; exact c1⟩

/-- All that the walk asks of a handle. -/
def Handle (w : World) (base : Nat) (st : List Bucket) (b : Nat) : Prop := ∃ s ∈ setsOf st, s.b = b ∧ SetAt w base s

theorem Handle.fp {w : World} {base : Nat} {st : List Bucket} {b : Nat} (h : Handle w base st b) : w.cell? ⟨b, 1, none⟩ = some (.int .u64 (fpAt w b)) := by
  obtain ⟨s, _, rfl, hs⟩ := h; exact (fpAt_set hs).2
theorem Handle.blk {w : World} {base : Nat} {st : List Bucket} {b : Nat} (h : Handle w base st b) : IsBlk w b := by
  obtain ⟨s, _, rfl, hs⟩ := h; exact hs.blk
theorem Bal.handle {w : World} {bc bm base : Nat} {st : List Bucket} (hc : Cache w bc bm base st) {L : List Nat} (hb : Bal st L) : ∀ b ∈ L, Handle w base st b := fun b hbL => by
  obtain ⟨s, hs, e⟩ := hb.mem b hbL
  obtain ⟨q, C, hq, ht⟩ := mem_setsOf.1 hs
  exact ⟨s, hs, e, (hc.set C (List.mem_of_getElem? hq) s ht).1⟩

/-! ### The plain law of the shape -/
/-- The handles from place i on, d of them, of one fingerprint. -/
def seg (f : Nat → Int) (fp : Int) (L : List Nat) (i d : Nat) : List Nat := ((L.drop i).take d).filter (fun x => f x == fp)

theorem seg_step (f : Nat → Int) (fp : Int) (L : List Nat) (i d : Nat) {x : Nat} (hx : L[i + d]? = some x) : seg f fp L i (d + 1) = seg f fp L i d ++ if f x == fp then [x] else [] := by
  unfold seg
  have : (L.drop i)[d]? = some x := by rw [List.getElem?_drop]; exact hx
  rw [List.take_add_one, this, List.filter_append]
  congr 1
  simp [List.filter_cons]

theorem mem_seg {f : Nat → Int} {fp : Int} {L : List Nat} {i d x : Nat} : x ∈ seg f fp L i d ↔ (∃ e, e < d ∧ L[i + e]? = some x) ∧ f x = fp := by
  unfold seg
  rw [List.mem_filter]
  simp only [beq_iff_eq]
  refine and_congr_left fun _ => ?_
  constructor
  · intro h
    obtain ⟨e, he⟩ := List.getElem?_of_mem h
    rw [List.getElem?_take] at he
    split at he
    · rename_i hlt
      rw [List.getElem?_drop] at he
      exact ⟨e, hlt, he⟩
    · cases he
  · rintro ⟨e, he, hx⟩
    refine List.mem_of_getElem? (i := e) ?_
    rw [List.getElem?_take, if_pos he, List.getElem?_drop]; exact hx

/-- The bucket of the fingerprint that is met first at place i. -/
theorem shape_bucket {w : World} {bc bm base : Nat} {st : List Bucket} (hc : Cache w bc bm base st) {L : List Nat} (hb : Bal st L) {i x : Nat} (hx : L[i]? = some x) (hfirst : ∀ q y, q < i → L[q]? = some y → fpAt w y ≠ fpAt w x) :
    ∃ (j : Nat) (B : Bucket), st[j]? = some B ∧ B.fp = fpAt w x ∧ (ded (seg (fpAt w) (fpAt w x) L i (L.length - i))).length = B.sets.length := by
  obtain ⟨s, hs, e, hsa⟩ := hb.handle hc x (List.mem_of_getElem? hx)
  obtain ⟨j, B, hB, ht⟩ := mem_setsOf.1 hs
  have hBf : B.fp = fpAt w x := by rw [← e, (fpAt_set hsa).1]; exact (hc.set B (List.mem_of_getElem? hB) s ht).2.symm
  refine ⟨j, B, hB, hBf, ?_⟩
  have hlx : i < L.length := (List.getElem?_eq_some_iff.1 hx).1
  rw [len_ded_eq (m := B.sets.map (·.b)) (blocks_in hc.blocks hB), List.length_map]
  intro y
  rw [mem_seg]
  constructor
  · rintro ⟨⟨p, hp, hy⟩, hfy⟩
    obtain ⟨t, hts, te, hta⟩ := hb.handle hc y (List.mem_of_getElem? hy)
    obtain ⟨j', C, hC, htC⟩ := mem_setsOf.1 hts
    have hCf : C.fp = fpAt w y := by rw [← te, (fpAt_set hta).1]; exact (hc.set C (List.mem_of_getElem? hC) t htC).2.symm
    have hjj : j' = j := nodup_getElem? hc.fps (x := B.fp) (by simp [hC, hCf, hfy, hBf]) (by simp [hB])
    subst hjj
    rw [hB] at hC; cases hC
    exact List.mem_map.2 ⟨t, htC, te⟩
  · intro hy
    obtain ⟨t, ht', te⟩ := List.mem_map.1 hy
    have hts : t ∈ setsOf st := mem_setsOf.2 ⟨j, B, hB, ht'⟩
    obtain ⟨hta, htf⟩ := hc.set B (List.mem_of_getElem? hB) t ht'
    have hfy : fpAt w y = fpAt w x := by rw [← te, (fpAt_set hta).1, htf, hBf]
    obtain ⟨q, hq⟩ := List.getElem?_of_mem (hb.cnt t hts).2
    rw [te] at hq
    have hqi : i ≤ q := Nat.le_of_not_lt fun h => hfirst q y h hq hfy
    have hql : q < L.length := (List.getElem?_eq_some_iff.1 hq).1
    refine ⟨⟨q - i, by omega, ?_⟩, hfy⟩
    rw [show i + (q - i) = q by omega]; exact hq

theorem shape_all {w : World} {bc bm base : Nat} {st : List Bucket} (hc : Cache w bc bm base st) {L : List Nat} (hb : Bal st L) : (ded (L.map (fpAt w))).length = st.length := by
  rw [len_ded_eq (m := st.map (·.fp)) hc.fps, List.length_map]
  intro z
  constructor
  · intro h
    obtain ⟨x, hx, rfl⟩ := List.mem_map.1 h
    obtain ⟨s, hs, e, hsa⟩ := hb.handle hc x hx
    obtain ⟨j, B, hB, ht⟩ := mem_setsOf.1 hs
    refine List.mem_map.2 ⟨B, List.mem_of_getElem? hB, ?_⟩
    rw [← e, (fpAt_set hsa).1]; exact (hc.set B (List.mem_of_getElem? hB) s ht).2.symm
  · intro h
    obtain ⟨B, hB, rfl⟩ := List.mem_map.1 h
    obtain ⟨s, hs⟩ := List.exists_mem_of_ne_nil _ (hc.ne B hB)
    obtain ⟨hsa, hf⟩ := hc.set B hB s hs
    refine List.mem_map.2 ⟨s.b, (hb.cnt s (List.mem_flatMap.2 ⟨B, hB, hs⟩)).2, ?_⟩
    rw [(fpAt_set hsa).1, hf]

theorem mem_take_map (f : Nat → Int) (L : List Nat) (i : Nat) (z : Int) : z ∈ (L.take i).map f ↔ ∃ q y, q < i ∧ L[q]? = some y ∧ f y = z := by
  constructor
  · intro h
    obtain ⟨y, hy, e⟩ := List.mem_map.1 h
    obtain ⟨q, hq⟩ := List.getElem?_of_mem hy
    rw [List.getElem?_take] at hq
    split at hq
    · rename_i hlt; exact ⟨q, y, hlt, hq, e⟩
    · cases hq
  · rintro ⟨q, y, hq, hy, e⟩
    refine List.mem_map.2 ⟨y, List.mem_of_getElem? (i := q) ?_, e⟩
    rw [List.getElem?_take, if_pos hq]; exact hy
theorem ded_map_old (f : Nat → Int) (L : List Nat) (i : Nat) {x : Nat} (hx : L[i]? = some x) (h : ∃ q y, q < i ∧ L[q]? = some y ∧ f y = f x) : (ded ((L.take (i + 1)).map f)).length = (ded ((L.take i).map f)).length := by
  rw [List.take_add_one, hx, List.map_append]
  show (ded ((L.take i).map f ++ [f x])).length = _
  rw [len_ded_snoc, if_pos ((mem_take_map f L i _).2 h)]; rfl
theorem ded_map_new (f : Nat → Int) (L : List Nat) (i : Nat) {x : Nat} (hx : L[i]? = some x) (h : ∀ q y, q < i → L[q]? = some y → f y ≠ f x) : (ded ((L.take (i + 1)).map f)).length = (ded ((L.take i).map f)).length + 1 := by
  rw [List.take_add_one, hx, List.map_append]
  show (ded ((L.take i).map f ++ [f x])).length = _
  rw [len_ded_snoc, if_neg (fun h' => by obtain ⟨q, y, h1, h2, h3⟩ := (mem_take_map f L i _).1 h'; exact h q y h1 h2 h3)]

theorem ded_seg_old (f : Nat → Int) (fp : Int) (L : List Nat) (i d : Nat) {x : Nat} (hx : L[i + d]? = some x) (hf : f x = fp) (h : ∃ e, e < d ∧ L[i + e]? = some x) : (ded (seg f fp L i (d + 1))).length = (ded (seg f fp L i d)).length := by
  rw [seg_step f fp L i d hx, if_pos (by simp [hf]), len_ded_snoc, if_pos (mem_seg.2 ⟨h, hf⟩)]; rfl
theorem ded_seg_new (f : Nat → Int) (fp : Int) (L : List Nat) (i d : Nat) {x : Nat} (hx : L[i + d]? = some x) (hf : f x = fp) (h : ∀ e, e < d → L[i + e]? ≠ some x) : (ded (seg f fp L i (d + 1))).length = (ded (seg f fp L i d)).length + 1 := by
  rw [seg_step f fp L i d hx, if_pos (by simp [hf]), len_ded_snoc, if_neg (fun h' => by obtain ⟨⟨e, h1, h2⟩, _⟩ := mem_seg.1 h'; exact h e h1 h2)]
theorem ded_seg_skip (f : Nat → Int) (fp : Int) (L : List Nat) (i d : Nat) {x : Nat} (hx : L[i + d]? = some x) (hf : f x ≠ fp) : seg f fp L i (d + 1) = seg f fp L i d := by
  rw [seg_step f fp L i d hx, if_neg (by simpa using hf)]; simp

end Go.Proofs.Qxb6604108a
