import Derived.Test.Qxb6604108aCache
namespace Go.Proofs.Qxb6604108a
open Go.RowKit
set_option linter.unusedVariables false
set_option linter.unusedSimpArgs false

/-! ### Lists -/
theorem map_set_same {α β : Type} (f : α → β) {l : List α} {j : Nat} {x y : α} (h : l[j]? = some x) (hf : f y = f x) : (l.set j y).map f = l.map f := by
  apply List.ext_getElem?
  intro q
  simp only [List.getElem?_map, List.getElem?_set]
  by_cases hq : j = q
  · subst hq
    have hl : j < l.length := (List.getElem?_eq_some_iff.1 h).1
    rw [h]; simp [hl, hf]
  · simp [hq]

theorem mem_set_iff {α : Type} {l : List α} {j : Nat} {y z : α} (h : z ∈ l.set j y) : z = y ∨ ∃ q, q ≠ j ∧ l[q]? = some z := by
  obtain ⟨q, hq⟩ := List.getElem?_of_mem h
  rw [List.getElem?_set] at hq
  by_cases hj : j = q
  · subst hj
    simp at hq
    exact Or.inl hq.2.symm
  · simp [hj] at hq
    exact Or.inr ⟨q, fun e => hj e.symm, by simp [hq]⟩

theorem nodup_getElem? {α : Type} {l : List α} (hn : l.Nodup) {i j : Nat} {x : α} (hi : l[i]? = some x) (hj : l[j]? = some x) : i = j :=
  (List.getElem?_inj (List.getElem?_eq_some_iff.1 hi).1 hn).1 (hi.trans hj.symm)

theorem blocks_in {st : List Bucket} (h : ((setsOf st).map (·.b)).Nodup) {j : Nat} {B : Bucket} (hB : st[j]? = some B) : (B.sets.map (·.b)).Nodup := by
  unfold setsOf at h
  rw [List.Nodup, List.map_flatMap, List.pairwise_flatMap] at h
  exact h.1 B (List.mem_of_getElem? hB)

theorem blocks_apart {st : List Bucket} (h : ((setsOf st).map (·.b)).Nodup) {j j' : Nat} {B C : Bucket} (hB : st[j]? = some B) (hC : st[j']? = some C) (hne : j ≠ j') {x y : KS} (hx : x ∈ B.sets) (hy : y ∈ C.sets) : x.b ≠ y.b := by
  unfold setsOf at h
  rw [List.Nodup, List.map_flatMap, List.pairwise_flatMap] at h
  have hp := List.pairwise_iff_getElem.1 h.2
  have lB := (List.getElem?_eq_some_iff.1 hB)
  have lC := (List.getElem?_eq_some_iff.1 hC)
  obtain ⟨l1, e1⟩ := lB
  obtain ⟨l2, e2⟩ := lC
  rcases Nat.lt_or_gt_of_ne hne with hlt | hlt
  · have := hp j j' l1 l2 hlt x.b (by rw [e1]; exact List.mem_map.2 ⟨x, hx, rfl⟩) y.b (by rw [e2]; exact List.mem_map.2 ⟨y, hy, rfl⟩)
    exact this
  · have := hp j' j l2 l1 hlt y.b (by rw [e2]; exact List.mem_map.2 ⟨y, hy, rfl⟩) x.b (by rw [e1]; exact List.mem_map.2 ⟨x, hx, rfl⟩)
    exact this.symm

/-- The number of holders of one set is written anew. -/
theorem cache_setN {w : World} {bc bm base : Nat} {st : List Bucket} (hc : Cache w bc bm base st) {j i : Nat} {B : Bucket} {s : KS} (hB : st[j]? = some B) (hs : B.sets[i]? = some s) (n' : Int) :
    Cache (w.setCell ⟨s.b, 2, none⟩ (.int .i64 n')) bc bm base (st.set j ⟨B.fp, B.v, B.sets.set i ⟨s.b, s.keys, n'⟩⟩) := by
  have mB := List.mem_of_getElem? hB
  have ms := List.mem_of_getElem? hs
  have hsa := (hc.set B mB s ms).1
  obtain ⟨hsb, hl, a, cap, sm, e1, e2, e3, e4⟩ := hsa
  have hk : ∀ k, k ≠ s.b → (w.setCell ⟨s.b, 2, none⟩ (.int .i64 n')).heap[k]? = w.heap[k]? := fun k hk => Below.heap_setCell _ _ _ _ hk
  have hrowk : ∀ {B' : Bucket} (v : Value) (n : Nat) (xs : List Value), w.ownsRow base 29 1 v n xs → (w.setCell ⟨s.b, 2, none⟩ (.int .i64 n')).ownsRow base 29 1 v n xs := fun {_} v n xs h => by
    obtain ⟨q, h⟩ := h
    refine ⟨q, ?_⟩
    rcases h with h | ⟨g, cap', cur, hv, hg, hh, r⟩
    · exact Or.inl h
    · refine Or.inr ⟨g, cap', cur, hv, hg, ?_, r⟩
      rw [hk g (fun e => by subst e; rw [hh] at e1; cases e1)]; exact hh
  have hother : ∀ t, t.b ≠ s.b → SetAt w base t → SetAt (w.setCell ⟨s.b, 2, none⟩ (.int .i64 n')) base t := fun t ht h => by
    refine h.kept (S := fun k => k = s.b) (fun k _ hk' => hk k hk') ht ?_ ?_
    · rintro k cur rfl h56; rw [h56] at e1; cases e1
    · rintro k rfl _ hmm; rw [hmm] at e1; cases e1
  refine ⟨hc.lbc, hc.lbm, by simpa [World.setCell] using hc.lsz, ?_, ?_, ?_, ?_, ?_, ?_, ?_, ?_⟩
  · rw [hk _ (by have := hc.lbc; omega)]; exact hc.box
  · have : mapOf (st.set j ⟨B.fp, B.v, B.sets.set i ⟨s.b, s.keys, n'⟩⟩) = mapOf st := map_set_same (fun b : Bucket => (b.fp, b.v)) hB rfl
    rw [this]
    exact hc.map.keep (hk _ (by have := hc.lbm; omega))
  · intro C hC
    rcases mem_set_iff hC with rfl | ⟨q, _, hq⟩
    · have h1 := hrowk (B' := B) _ _ _ (hc.row B mB)
      simp only [List.length_set]
      rw [map_set_same ptr hs (by rfl)]
      exact h1
    · exact hrowk (B' := B) _ _ _ (hc.row C (List.mem_of_getElem? hq))
  · intro C hC t ht
    rcases mem_set_iff hC with rfl | ⟨q, hqj, hq⟩
    · rcases mem_set_iff ht with rfl | ⟨p, hpi, hp⟩
      · refine ⟨⟨hsb, hl, a, cap, sm, ?_, ?_, e3, ?_⟩, (hc.set B mB s ms).2⟩
        · rw [block_setCell e1]; rfl
        · obtain ⟨q, h⟩ := e2
          refine ⟨q, ?_⟩
          rcases h with h | ⟨g, cap', cur, hv, hg, hh, r⟩
          · exact Or.inl h
          · refine Or.inr ⟨g, cap', cur, hv, hg, ?_, r⟩
            rw [hk g (fun e => by subst e; rw [hh] at e1; cases e1)]; exact hh
        · rw [hk sm (fun e => by subst e; rw [e4] at e1; cases e1)]; exact e4
      · have hne : t.b ≠ s.b := fun e => hpi (nodup_getElem? (blocks_in hc.blocks hB) (x := s.b) (by simp [hp, e]) (by simp [hs]))
        obtain ⟨h1, h2⟩ := hc.set B mB t (List.mem_of_getElem? hp)
        exact ⟨hother t hne h1, h2⟩
    · have hne : t.b ≠ s.b := fun e => blocks_apart hc.blocks hq hB hqj ht ms e
      obtain ⟨h1, h2⟩ := hc.set C (List.mem_of_getElem? hq) t ht
      exact ⟨hother t hne h1, h2⟩
  · intro C hC
    rcases mem_set_iff hC with rfl | ⟨q, hqj, hq⟩
    · intro h
      have := congrArg List.length h
      simp at this
      exact hc.ne B mB (List.eq_nil_of_length_eq_zero (by simpa using this))
    · exact hc.ne C (List.mem_of_getElem? hq)
  · rw [map_set_same (·.fp) hB (by rfl)]; exact hc.fps
  · rw [map_set_same (fun b : Bucket => b.v.ownBlock) hB (by rfl)]; exact hc.rows
  · have h := hc.blocks
    unfold setsOf at h ⊢
    rw [List.map_flatMap] at h ⊢
    rw [List.flatMap_def] at h ⊢
    rw [map_set_same (fun b : Bucket => b.sets.map (·.b)) hB (by simp only; exact map_set_same _ hs rfl)]
    exact h

/-- What the look-up of a fingerprint finds: the bucket's slice, or none. -/
def LookAt (st : List Bucket) (ks : List Key) (v : Value) (ss : List KS) : Prop :=
  (∃ (j : Nat) (B : Bucket), st[j]? = some B ∧ B.fp = fpOf ks ∧ ss = B.sets ∧ v = B.v) ∨ ((∀ B ∈ st, B.fp ≠ fpOf ks) ∧ ss = [] ∧ v = .slice none 0 0)

/-- A new set stands at its bucket's end. -/
def Pushed (st : List Bucket) (ks : List Key) (v : Value) (ss : List KS) (v' : Value) (b : Nat) (st' : List Bucket) : Prop :=
  (∃ (j : Nat) (B : Bucket), st[j]? = some B ∧ B.fp = fpOf ks ∧ ss = B.sets ∧ v = B.v ∧ st' = st.set j ⟨B.fp, v', B.sets ++ [⟨b, ks, 1⟩]⟩) ∨
  ((∀ B ∈ st, B.fp ≠ fpOf ks) ∧ ss = [] ∧ v = .slice none 0 0 ∧ st' = st ++ [⟨fpOf ks, v', [⟨b, ks, 1⟩]⟩])

theorem upd_run {w : World} {bm : Nat} {st : List Bucket} (hm : mapIs w bm (mapOf st)) (hf : (st.map (·.fp)).Nodup) {ks : List Key} {v : Value} {ss : List KS} (hl : LookAt st ks v ss) (v' : Value) (b : Nat) :
    ∃ w' st', (Instr.mapUpdate 50 (.map (some bm)) (.int .u64 (fpOf ks)) v').run Try.prog w = .ok () w' ∧ mapIs w' bm (mapOf st') ∧ w.grownBy w' (some bm) ∧ Pushed st ks v ss v' b st' := by
  rcases hl with ⟨j, B, hB, hfp, hss, hv⟩ | ⟨hno, hss, hv⟩
  · have hj : (mapOf st)[j]? = some (fpOf ks, B.v) := by simp [mapOf, hB, hfp]
    obtain ⟨w', h1, h2, h3⟩ := hm.update_old (by rw [mapOf_fst]; exact hf) hj v'
    refine ⟨w', st.set j ⟨B.fp, v', B.sets ++ [⟨b, ks, 1⟩]⟩, h1, ?_, h3, Or.inl ⟨j, B, hB, hfp, hss, hv, rfl⟩⟩
    have : mapOf (st.set j ⟨B.fp, v', B.sets ++ [⟨b, ks, 1⟩]⟩) = (mapOf st).set j (fpOf ks, v') := by
      simp [mapOf, List.map_set, hfp]
    rw [this]; exact h2
  · obtain ⟨w', h1, h2, h3⟩ := hm.update_new (x := fpOf ks) (fun p hp => by obtain ⟨B, hB, rfl⟩ := List.mem_map.1 hp; exact hno B hB) v'
    refine ⟨w', st ++ [⟨fpOf ks, v', [⟨b, ks, 1⟩]⟩], h1, ?_, h3, Or.inr ⟨hno, hss, hv, rfl⟩⟩
    have : mapOf (st ++ [⟨fpOf ks, v', [⟨b, ks, 1⟩]⟩]) = mapOf st ++ [(fpOf ks, v')] := by simp [mapOf]
    rw [this]; exact h2

theorem nodup_set {α : Type} : ∀ {l : List α} {j : Nat} {x : α}, l.Nodup → (∀ q, q ≠ j → l[q]? ≠ some x) → (l.set j x).Nodup
  | [], _, _, _, _ => by simp
  | a :: l, 0, x, h, hq => by
    simp at h ⊢
    refine ⟨fun hm => ?_, h.2⟩
    obtain ⟨q, hq'⟩ := List.getElem?_of_mem hm
    exact hq (q + 1) (by omega) (by simpa using hq')
  | a :: l, j + 1, x, h, hq => by
    simp at h ⊢
    refine ⟨fun hm => ?_, nodup_set h.2 (fun q hne => by have := hq (q + 1) (by omega); simpa using this)⟩
    rcases mem_set_iff hm with e | ⟨q, _, hq'⟩
    · exact hq 0 (by omega) (by simp [e])
    · exact h.1 (List.mem_of_getElem? hq')

theorem setsOf_push : ∀ {st : List Bucket} {j : Nat} {B : Bucket} (v' : Value) (x : KS), st[j]? = some B → (setsOf (st.set j ⟨B.fp, v', B.sets ++ [x]⟩)).Perm (x :: setsOf st)
  | [], j, B, _, _, h => by simp at h
  | C :: st, 0, B, v', x, h => by
    simp at h; subst h
    simp only [setsOf, List.set_cons_zero, List.flatMap_cons, List.append_assoc, List.singleton_append]
    exact List.perm_middle
  | C :: st, j + 1, B, v', x, h => by
    simp at h
    have := setsOf_push v' x h
    simp only [setsOf, List.set_cons_succ, List.flatMap_cons] at this ⊢
    exact (this.append_left C.sets).trans List.perm_middle

theorem Pushed.perm {st : List Bucket} {ks : List Key} {v : Value} {ss : List KS} {v' : Value} {b : Nat} {st' : List Bucket} (h : Pushed st ks v ss v' b st') : (setsOf st').Perm (⟨b, ks, 1⟩ :: setsOf st) := by
  rcases h with ⟨j, B, hB, _, _, _, rfl⟩ | ⟨_, _, _, rfl⟩
  · exact setsOf_push v' _ hB
  · unfold setsOf
    rw [List.flatMap_append]
    simp only [List.flatMap_cons, List.flatMap_nil, List.append_nil]
    exact List.perm_append_comm

/-- THE CACHE BEHIND A NEW SET. w2: ahead; w3: the keys are copied; then the set's map and the set; w5: the one-cell block of the pointer, draws; w6: the append; w7: the store into the map. -/
theorem cache_push {w2 w3 w5 w6 w7 : World} {bc bm base : Nat} {st st' : List Bucket} {ks : List Key} {v v' : Value} {ss : List KS} {a' : Option Addr} {n cap' : Nat} (hc : Cache w2 bc bm base st)
    (hb3 : Below w2.heap.size w2 w3) (hkeys : w3.ownsRow w2.heap.size 56 3 (.slice a' n cap') n (flat ks)) (hn : ks.length = n) (hn1 : n ≤ 1048576)
    (hw5 : Below (w3.heap.size + 2) ((w3.alloc (.map #[] 0)).alloc (.cells #[.slice a' n cap', .int .u64 (fpOf ks), .int .i64 1, .map (some w3.heap.size)] 60)) w5)
    (hg6 : w5.grownBy w6 v.ownBlock) (hown6 : w6.ownsRow base 29 1 v' (ss.length + 1) (ss.map ptr ++ [.pointer (some ⟨w3.heap.size + 1, 0, none⟩)])) (hat : v'.ownBlock = v.ownBlock ∨ ∃ g, v'.ownBlock = some g ∧ w2.heap.size ≤ g)
    (hm7 : mapIs w7 bm (mapOf st')) (hg7 : w6.grownBy w7 (some bm)) (hp : Pushed st ks v ss v' (w3.heap.size + 1) st') (hvo : ∀ k, v.ownBlock = some k → base ≤ k ∧ k < w2.heap.size ∧ ∃ cur, w2.heap[k]? = some (.cells cur 29 (0, 0))) :
    Cache w7 bc bm base st' ∧ Off (fun k => k = bm ∨ base ≤ k) w2 w7 := by
  subst hn
  have s3 := hb3.size
  have s4 : ((w3.alloc (.map #[] 0)).alloc (.cells #[.slice a' ks.length cap', .int .u64 (fpOf ks), .int .i64 1, .map (some w3.heap.size)] 60)).heap.size = w3.heap.size + 2 := by simp
  have s5 := hw5.size
  have s6 := hg6.size
  have s7 := hg7.size
  have lb := hc.lsz
  have hbm := hc.lbm
  rw [s4] at s5
  have k3 : ∀ k, k < w3.heap.size → v.ownBlock ≠ some k → k ≠ bm → w7.heap[k]? = w3.heap[k]? := fun k hk h1 h2 => by
    rw [hg7.block k (by omega) (fun e => h2 (Option.some.inj e)), hg6.block k (by omega) (fun e => h1 e.symm), hw5.block k (by omega), Below.heap_alloc _ _ _ (by simp; omega), Below.heap_alloc _ _ _ hk]
  have k2 : ∀ k, k < w2.heap.size → ¬ (v.ownBlock = some k ∨ k = bm) → w7.heap[k]? = w2.heap[k]? := fun k hk h => by
    rw [k3 k (by omega) (fun e => h (Or.inl e)) (fun e => h (Or.inr e)), hb3.block k hk]
  have kb : w7.heap[w3.heap.size + 1]? = some (.cells #[.slice a' ks.length cap', .int .u64 (fpOf ks), .int .i64 1, .map (some w3.heap.size)] 60 (0, 0)) := by
    rw [hg7.block _ (by omega) (fun e => by have := Option.some.inj e; omega), hg6.block _ (by omega) (fun e => by have := (hvo _ e.symm).2.1; omega), hw5.block _ (by omega)]
    have := heap_alloc_new (w3.alloc (.map #[] 0)) (.cells #[.slice a' ks.length cap', .int .u64 (fpOf ks), .int .i64 1, .map (some w3.heap.size)] 60)
    simpa using this
  have km : w7.heap[w3.heap.size]? = some (.map #[] 0) := by
    rw [hg7.block _ (by omega) (fun e => by have := Option.some.inj e; omega), hg6.block _ (by omega) (fun e => by have := (hvo _ e.symm).2.1; omega), hw5.block _ (by omega), Below.heap_alloc _ _ _ (by simp)]
    exact heap_alloc_new w3 _
  have kkeys : w7.ownsRow base 56 3 (.slice a' ks.length cap') ks.length (flat ks) := by
    obtain ⟨q, h⟩ := hkeys
    refine ⟨q, ?_⟩
    rcases h with h | ⟨g, cp, cur, hv, hg, hh, r⟩
    · exact Or.inl h
    · refine Or.inr ⟨g, cp, cur, hv, by omega, ?_, r⟩
      rw [k3 g (lt_of_blk hh) (fun e => by have := (hvo _ e).2.1; omega) (by omega)]; exact hh
  have knew : SetAt w7 base ⟨w3.heap.size + 1, ks, 1⟩ := ⟨by simp only; omega, hn1, a', cap', w3.heap.size, kb, kkeys, by omega, km⟩
  have kold : ∀ t, SetAt w2 base t → SetAt w7 base t := fun t ht => by
    refine ht.kept (S := fun k => v.ownBlock = some k ∨ k = bm) k2 ?_ ?_ ?_
    · rintro (h | h)
      · obtain ⟨_, _, cur, hcur⟩ := hvo _ h
        obtain ⟨_, _, a, cap, sm, e1, _⟩ := ht
        rw [e1] at hcur; cases hcur
      · have := ht.1; omega
    · rintro k cur (h | h) h56
      · obtain ⟨_, _, cur', hcur⟩ := hvo _ h
        rw [h56] at hcur; cases hcur
      · obtain ⟨es, cl, e1, _⟩ := hc.map
        subst h; rw [e1] at h56; cases h56
    · rintro k (h | h) hk hmm
      · obtain ⟨_, _, cur', hcur⟩ := hvo _ h
        rw [hmm] at hcur; cases hcur
      · omega
  have krow : ∀ (u : Value) (m : Nat) (xs : List Value), u.ownBlock ≠ v.ownBlock → w2.ownsRow base 29 1 u m xs → w7.ownsRow base 29 1 u m xs := fun u m xs hne h => by
    refine row_kept h (S := fun k => v.ownBlock = some k ∨ k = bm) k2 ?_
    rintro k (e | e) hu
    · exact hne (hu.trans e.symm)
    · have := (h.lt k hu).1; omega
  have krow' : w7.ownsRow base 29 1 v' (ss.length + 1) (ss.map ptr ++ [.pointer (some ⟨w3.heap.size + 1, 0, none⟩)]) := by
    refine hown6.kept hg7 (Or.inr ?_)
    intro e
    have := (hown6.lt bm e).1; omega
  have hltb : ∀ t ∈ setsOf st, t.b < w2.heap.size := fun t ht => by
    obtain ⟨B, hB, hBt⟩ := List.mem_flatMap.1 ht
    exact (hc.set B hB t hBt).1.lt
  have hblocks : ((setsOf st').map (·.b)).Nodup := by
    refine ((hp.perm.map (·.b)).nodup_iff).2 ?_
    simp only [List.map_cons, List.nodup_cons]
    refine ⟨fun hm => ?_, hc.blocks⟩
    obtain ⟨t, ht, e⟩ := List.mem_map.1 hm
    have := hltb t ht
    omega
  have hbox : w7.heap[bc]? = some (.cells #[.map (some bm)] 52 (0, 0)) := by
    have hlbc := hc.lbc
    rw [k2 bc (by omega) (by
      rintro (h | h)
      · have := (hvo _ h).1; omega
      · obtain ⟨es, cl, e1, _⟩ := hc.map
        have := hc.box
        subst h; rw [e1] at this; cases this)]
    exact hc.box
  refine ⟨⟨hc.lbc, hc.lbm, by omega, hbox, hm7, ?_, ?_, ?_, ?_, ?_, hblocks⟩, ⟨?_, ?_, ?_, by omega, fun k hk hn => ?_, fun x hx => ?_⟩⟩
  · intro C hC
    rcases hp with ⟨j, B, hB, hfp, hss, hv, rfl⟩ | ⟨hno, hss, hv, rfl⟩
    · rcases mem_set_iff hC with rfl | ⟨q, hqj, hq⟩
      · subst hss
        simpa [ptr] using krow'
      · refine krow _ _ _ (fun e => hqj ?_) (hc.row C (List.mem_of_getElem? hq))
        exact nodup_getElem? hc.rows (x := C.v.ownBlock) (by simp [hq]) (by simp [hB, e, hv])
    · rcases List.mem_append.1 hC with hC | hC
      · refine krow _ _ _ (fun e => ?_) (hc.row C hC)
        obtain ⟨g, cp, hf, _⟩ := (hc.row C hC).form (List.length_pos_iff.2 (hc.ne C hC))
        rw [hf, hv] at e; simp [Value.ownBlock] at e
      · simp at hC; subst hC; subst hss
        simpa [ptr] using krow'
  · intro C hC t ht
    rcases hp with ⟨j, B, hB, hfp, hss, hv, rfl⟩ | ⟨hno, hss, hv, rfl⟩
    · rcases mem_set_iff hC with rfl | ⟨q, hqj, hq⟩
      · rcases List.mem_append.1 ht with ht | ht
        · obtain ⟨h1, h2⟩ := hc.set B (List.mem_of_getElem? hB) t ht
          exact ⟨kold t h1, h2⟩
        · simp at ht; subst ht; exact ⟨knew, hfp.symm⟩
      · obtain ⟨h1, h2⟩ := hc.set C (List.mem_of_getElem? hq) t ht
        exact ⟨kold t h1, h2⟩
    · rcases List.mem_append.1 hC with hC | hC
      · obtain ⟨h1, h2⟩ := hc.set C hC t ht
        exact ⟨kold t h1, h2⟩
      · simp at hC; subst hC; simp at ht; subst ht; exact ⟨knew, rfl⟩
  · intro C hC
    rcases hp with ⟨j, B, hB, hfp, hss, hv, rfl⟩ | ⟨hno, hss, hv, rfl⟩
    · rcases mem_set_iff hC with rfl | ⟨q, hqj, hq⟩
      · simp
      · exact hc.ne C (List.mem_of_getElem? hq)
    · rcases List.mem_append.1 hC with hC | hC
      · exact hc.ne C hC
      · simp at hC; subst hC; simp
  · rcases hp with ⟨j, B, hB, hfp, hss, hv, rfl⟩ | ⟨hno, hss, hv, rfl⟩
    · rw [map_set_same (·.fp) hB (by rfl)]; exact hc.fps
    · rw [List.map_append, List.nodup_append]
      refine ⟨hc.fps, by simp, fun x hx y hy => ?_⟩
      obtain ⟨B, hB, rfl⟩ := List.mem_map.1 hx
      simp at hy; subst hy
      exact hno B hB
  · have hnew : ∀ C ∈ st, ∀ g, C.v.ownBlock = some g → g < w2.heap.size := fun C hC g hg => ((hc.row C hC).lt g hg).2
    rcases hp with ⟨j, B, hB, hfp, hss, hv, rfl⟩ | ⟨hno, hss, hv, rfl⟩
    · rcases hat with hat | ⟨g, hg, hg2⟩
      · rw [map_set_same (fun b : Bucket => b.v.ownBlock) hB (by simp only; rw [hat, hv])]; exact hc.rows
      · rw [List.map_set]
        refine nodup_set hc.rows (fun q hq e => ?_)
        rw [List.getElem?_map] at e
        cases hC : st[q]? with
        | none => rw [hC] at e; cases e
        | some C =>
          rw [hC] at e
          simp at e
          have := hnew C (List.mem_of_getElem? hC) g (e.trans hg)
          omega
    · rw [List.map_append, List.nodup_append]
      refine ⟨hc.rows, by simp, fun x hx y hy => ?_⟩
      obtain ⟨C, hC, rfl⟩ := List.mem_map.1 hx
      simp at hy; subst hy
      obtain ⟨g, cp, hf, hg1, hg2⟩ := (hc.row C hC).form (List.length_pos_iff.2 (hc.ne C hC))
      intro e
      rcases hat with hat | ⟨g', hg', hg2'⟩
      · rw [hat, hv, hf] at e; simp [Value.ownBlock] at e
      · rw [hg'] at e
        have := hnew C hC g' e
        omega
  · exact (hg7.os.trans hg6.os).trans (hw5.os.trans hb3.os)
  · exact (hg7.tape.trans hg6.tape).trans (hw5.tape.trans hb3.tape)
  · exact (hg7.output.trans hg6.output).trans (hw5.output.trans hb3.output)
  · refine k2 k hk ?_
    rintro (h | h)
    · exact hn (Or.inr (hvo _ h).1)
    · exact hn (Or.inl h)
  · refine hx.keep (k2 x hx.lt ?_)
    obtain ⟨cx, ex⟩ := hx
    rintro (h | h)
    · obtain ⟨_, _, cur, hcur⟩ := hvo _ h
      rw [ex] at hcur; cases hcur
    · obtain ⟨es, cl, e1, _⟩ := hc.map
      rw [h, e1] at ex; cases ex

end Go.Proofs.Qxb6604108a
