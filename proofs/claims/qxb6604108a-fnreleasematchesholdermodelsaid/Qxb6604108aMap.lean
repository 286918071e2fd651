import Derived.Test.Qxb6604108aRow
namespace Go.Proofs.Qxb6604108a
open Go.RowKit

/-! ### The cache's map: keys uint64, elements whatever -/
/-- Block bm is a map that holds just these pairs, in this order. -/
def mapIs (w : World) (bm : Nat) (M : List (Int × Value)) : Prop :=
  ∃ es clock, w.heap[bm]? = some (.map es clock) ∧ es.toList.map (fun e : MapEntry => (e.key, e.val)) = M.map (fun p => (Value.int .u64 p.1, p.2))

theorem mapIs.keep {w w' : World} {bm : Nat} {M : List (Int × Value)} (h : mapIs w bm M) (hb : w'.heap[bm]? = w.heap[bm]?) : mapIs w' bm M := by
  obtain ⟨es, clock, h1, h2⟩ := h
  exact ⟨es, clock, hb.trans h1, h2⟩

theorem mapIs.isKey {M : List (Int × Value)} {es : Array MapEntry} (h : es.toList.map (fun e : MapEntry => (e.key, e.val)) = M.map (fun p => (Value.int .u64 p.1, p.2))) : ∀ x ∈ es.toList, MapKept.IsKey (.int .u64) x.key := by
  intro x hx
  have : (x.key, x.val) ∈ es.toList.map (fun e : MapEntry => (e.key, e.val)) := List.mem_map.2 ⟨x, hx, rfl⟩
  rw [h] at this
  obtain ⟨p, _, hp⟩ := List.mem_map.1 this
  have : x.key = .int .u64 p.1 := ((Prod.mk.injEq _ _ _ _).mp hp).1.symm
  rw [this]; rfl

theorem mapIs.length {M : List (Int × Value)} {es : Array MapEntry} (h : es.toList.map (fun e : MapEntry => (e.key, e.val)) = M.map (fun p => (Value.int .u64 p.1, p.2))) : es.size = M.length := by
  have := congrArg List.length h
  simpa using this

theorem mapIs.at {M : List (Int × Value)} {es : Array MapEntry} (h : es.toList.map (fun e : MapEntry => (e.key, e.val)) = M.map (fun p => (Value.int .u64 p.1, p.2))) {j : Nat} {e : MapEntry} (hj : es.toList[j]? = some e) :
    ∃ x, M[j]? = some (x, e.val) ∧ e.key = .int .u64 x := by
  have h1 : (es.toList.map (fun e : MapEntry => (e.key, e.val)))[j]? = some (e.key, e.val) := by simp only [List.getElem?_map, hj, Option.map_some]
  rw [h, List.getElem?_map] at h1
  cases hm : M[j]? with
  | none => rw [hm] at h1; simp at h1
  | some p =>
    rw [hm] at h1
    simp at h1
    exact ⟨p.1, by rw [← h1.2], h1.1.symm⟩

theorem map_eraseIdx' {α β : Type} (f : α → β) : ∀ (l : List α) (i : Nat), (l.eraseIdx i).map f = (l.map f).eraseIdx i
  | [], _ => by simp
  | _ :: _, 0 => by simp
  | a :: l, i + 1 => by simp [map_eraseIdx' f l i]

/-- What the map has at a key. -/
def lookV (M : List (Int × Value)) (x : Int) : Value := ((M.find? (fun p => p.1 == x)).map (·.2)).getD (.slice none 0 0)

theorem find_of_at : ∀ {M : List (Int × Value)} {j : Nat} {x : Int} {v : Value}, (M.map (·.1)).Nodup → M[j]? = some (x, v) → M.find? (fun p => p.1 == x) = some (x, v)
  | [], j, x, v, _, h => by simp at h
  | p :: r, 0, x, v, _, h => by simp at h; subst h; simp
  | p :: r, j + 1, x, v, hn, h => by
    simp at h hn
    have hne : p.1 ≠ x := by
      rintro rfl
      exact hn.1 v (List.mem_of_getElem? h)
    rw [List.find?_cons_of_neg (by simpa using hne)]
    exact find_of_at (by simpa using hn.2) h

theorem zero28 (w : World) : (zeroValue 28).run Try.prog w = .ok (.slice none 0 0) w := by kernel_rfl

theorem mapIs.look {w : World} {bm : Nat} {M : List (Int × Value)} (h : mapIs w bm M) (hn : (M.map (·.1)).Nodup) (x : Int) : (Instr.lookup 50 (.map (some bm)) (.int .u64 x) false).run Try.prog w = .ok (lookV M x) w := by
  obtain ⟨es, clock, hb, hM⟩ := h
  have hk : MapKept.IsKey (.int .u64) (.int .u64 x) := rfl
  rcases MapKept.findNow_spec hk es.toList 0 (mapIs.isKey hM) with ⟨h1, h2⟩ | ⟨j, e, h1, h2, h3⟩
  · have : lookV M x = .slice none 0 0 := by
      unfold lookV
      rw [List.find?_eq_none.2]
      · rfl
      · intro p hp hpx
        have hp2 : (Value.int .u64 p.1, p.2) ∈ M.map (fun p => (Value.int .u64 p.1, p.2)) := List.mem_map.2 ⟨p, hp, rfl⟩
        rw [← hM] at hp2
        obtain ⟨e, he, heq⟩ := List.mem_map.1 hp2
        refine h2 e he ?_
        have : e.key = .int .u64 p.1 := ((Prod.mk.injEq _ _ _ _).mp heq).1
        rw [this]; simp at hpx; rw [hpx]
    rw [this]
    simp [Instr.lookup, run_underlying Try.underlying50, MapKept.run_getObj_map hb, MapKept.run_checkKey Try.underlying40 hk, MapKept.run_findKey Try.underlying40 h1, Result.andThen]
  · obtain ⟨y, hy, hy2⟩ := mapIs.at hM h2
    rw [h3] at hy2
    cases hy2
    have : lookV M x = e.val := by
      unfold lookV
      rw [find_of_at hn hy]; rfl
    rw [this]
    simp [Instr.lookup, run_underlying Try.underlying50, MapKept.run_getObj_map hb, MapKept.run_checkKey Try.underlying40 hk, MapKept.run_findKey Try.underlying40 h1, Result.andThen]

theorem mapIs.size {w : World} {bm : Nat} {M : List (Int × Value)} (h : mapIs w bm M) (t : TypeId) : (Builtin.len_ #[50] t #[.map (some bm)]).run Try.prog w = .ok (.int .i64 M.length) w := by
  obtain ⟨es, clock, hb, hM⟩ := h
  simp [Builtin.len_, run_underlying Try.underlying50, MapKept.run_getObj_map hb, Result.andThen, mapIs.length hM]
  rfl

theorem mapIs.update_old {w : World} {bm : Nat} {M : List (Int × Value)} (h : mapIs w bm M) (hn : (M.map (·.1)).Nodup) {j : Nat} {x : Int} {u : Value} (hj : M[j]? = some (x, u)) (v : Value) :
    ∃ w', (Instr.mapUpdate 50 (.map (some bm)) (.int .u64 x) v).run Try.prog w = .ok () w' ∧ mapIs w' bm (M.set j (x, v)) ∧ w.grownBy w' (some bm) := by
  obtain ⟨es, clock, hb, hM⟩ := h
  have hk : MapKept.IsKey (.int .u64) (.int .u64 x) := rfl
  rcases MapKept.findNow_spec hk es.toList 0 (mapIs.isKey hM) with ⟨h1, h2⟩ | ⟨i, e, h1, h2, h3⟩
  · exfalso
    have hp2 : (Value.int .u64 x, u) ∈ M.map (fun p => (Value.int .u64 p.1, p.2)) := List.mem_map.2 ⟨(x, u), List.mem_of_getElem? hj, rfl⟩
    rw [← hM] at hp2
    obtain ⟨e, he, heq⟩ := List.mem_map.1 hp2
    exact h2 e he ((Prod.mk.injEq _ _ _ _).mp heq).1
  · obtain ⟨y, hy, hy2⟩ := mapIs.at hM h2
    rw [h3] at hy2
    cases hy2
    have hij : i = j := by
      have e1 : (M.map (·.1))[i]? = some x := by simp [List.getElem?_map, hy]
      have e2 : (M.map (·.1))[j]? = some x := by simp [List.getElem?_map, hj]
      have hi : i < (M.map (·.1)).length := (List.getElem?_eq_some_iff.1 e1).1
      exact (List.getElem?_inj hi hn).1 (e1.trans e2.symm)
    subst hij
    have hlt : i < es.size := by have := (List.getElem?_eq_some_iff.1 h2).1; simpa using this
    have hei : es[i]? = some e := by simpa using h2
    refine ⟨{ w with heap := w.heap.setIfInBounds bm (.map (es.modify i fun e => { e with key := .int .u64 x, val := v }) clock) }, ?_, ⟨_, _, (MapKept.heap_set hb).1, ?_⟩, ⟨rfl, rfl, rfl, by simp, fun k _ hk => (MapKept.heap_set hb).2 k (fun e => hk (by rw [e]))⟩⟩
    · simp [Instr.mapUpdate, run_underlying Try.underlying50, MapKept.run_getObj_map hb, MapKept.run_checkKey Try.underlying40 hk, MapKept.run_findKey Try.underlying40 h1, hei, h3, MapKept.run_keyThatStays hk, MapKept.run_setObj_map _ hb, Result.andThen]
    · apply List.ext_getElem?
      intro q
      have hq : (es.toList.map (fun e : MapEntry => (e.key, e.val)))[q]? = (M.map (fun p => (Value.int .u64 p.1, p.2)))[q]? := by rw [hM]
      simp only [List.getElem?_map, Array.getElem?_toList, Array.getElem?_modify, List.getElem?_set] at hq ⊢
      by_cases hqi : i = q
      · subst hqi
        have hlM : i < M.length := (List.getElem?_eq_some_iff.1 hj).1
        simp [hei, hlM]
      · simp [hqi, hq]

theorem mapIs.update_new {w : World} {bm : Nat} {M : List (Int × Value)} (h : mapIs w bm M) {x : Int} (hx : ∀ p ∈ M, p.1 ≠ x) (v : Value) :
    ∃ w', (Instr.mapUpdate 50 (.map (some bm)) (.int .u64 x) v).run Try.prog w = .ok () w' ∧ mapIs w' bm (M ++ [(x, v)]) ∧ w.grownBy w' (some bm) := by
  obtain ⟨es, clock, hb, hM⟩ := h
  have hk : MapKept.IsKey (.int .u64) (.int .u64 x) := rfl
  rcases MapKept.findNow_spec hk es.toList 0 (mapIs.isKey hM) with ⟨h1, h2⟩ | ⟨i, e, h1, h2, h3⟩
  · refine ⟨{ w with heap := w.heap.setIfInBounds bm (.map (es.push { key := .int .u64 x, val := v, born := clock }) (clock + 1)) }, ?_, ⟨_, _, (MapKept.heap_set hb).1, ?_⟩, ⟨rfl, rfl, rfl, by simp, fun k _ hk => (MapKept.heap_set hb).2 k (fun e => hk (by rw [e]))⟩⟩
    · simp [Instr.mapUpdate, run_underlying Try.underlying50, MapKept.run_getObj_map hb, MapKept.run_checkKey Try.underlying40 hk, MapKept.run_findKey Try.underlying40 h1, MapKept.run_setObj_map _ hb, Result.andThen]
    · simp [hM]
  · exfalso
    obtain ⟨y, hy, hy2⟩ := mapIs.at hM h2
    rw [h3] at hy2
    cases hy2
    exact hx _ (List.mem_of_getElem? hy) rfl

theorem mapIs.delete_old {w : World} {bm : Nat} {M : List (Int × Value)} (h : mapIs w bm M) (hn : (M.map (·.1)).Nodup) {j : Nat} {x : Int} {u : Value} (hj : M[j]? = some (x, u)) :
    ∃ w', (∀ t, (Builtin.delete_ #[50, 40] t #[.map (some bm), .int .u64 x]).run Try.prog w = .ok (.tuple #[]) w') ∧ mapIs w' bm (M.eraseIdx j) ∧ w.grownBy w' (some bm) := by
  obtain ⟨es, clock, hb, hM⟩ := h
  have hk : MapKept.IsKey (.int .u64) (.int .u64 x) := rfl
  rcases MapKept.findNow_spec hk es.toList 0 (mapIs.isKey hM) with ⟨h1, h2⟩ | ⟨i, e, h1, h2, h3⟩
  · exfalso
    have hp2 : (Value.int .u64 x, u) ∈ M.map (fun p => (Value.int .u64 p.1, p.2)) := List.mem_map.2 ⟨(x, u), List.mem_of_getElem? hj, rfl⟩
    rw [← hM] at hp2
    obtain ⟨e, he, heq⟩ := List.mem_map.1 hp2
    exact h2 e he ((Prod.mk.injEq _ _ _ _).mp heq).1
  · obtain ⟨y, hy, hy2⟩ := mapIs.at hM h2
    rw [h3] at hy2
    cases hy2
    have hij : i = j := by
      have e1 : (M.map (·.1))[i]? = some x := by simp [List.getElem?_map, hy]
      have e2 : (M.map (·.1))[j]? = some x := by simp [List.getElem?_map, hj]
      have hi : i < (M.map (·.1)).length := (List.getElem?_eq_some_iff.1 e1).1
      exact (List.getElem?_inj hi hn).1 (e1.trans e2.symm)
    subst hij
    have hlt : i < es.size := by have := (List.getElem?_eq_some_iff.1 h2).1; simpa using this
    refine ⟨{ w with heap := w.heap.setIfInBounds bm (.map (es.eraseIdxIfInBounds i) clock) }, ?_, ⟨_, _, (MapKept.heap_set hb).1, ?_⟩, ⟨rfl, rfl, rfl, by simp, fun k _ hk => (MapKept.heap_set hb).2 k (fun e => hk (by rw [e]))⟩⟩
    · intro t
      simp [Builtin.delete_, run_underlying Try.underlying50, MapKept.run_getObj_map hb, MapKept.run_checkKey Try.underlying40 hk, MapKept.run_findKey Try.underlying40 h1, MapKept.run_setObj_map _ hb, Result.andThen]
    · simp only [Array.eraseIdxIfInBounds, hlt, dif_pos]
      rw [Array.toList_eraseIdx, map_eraseIdx', map_eraseIdx', hM]

end Go.Proofs.Qxb6604108a
