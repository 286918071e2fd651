import Derived.Test.Qxb6604108aDrop
import Derived.Test.Qxb6604108aW5
import Derived.Test.Qxb6604108aL4b
import Derived.Test.Qxb6604108aW6
namespace Go.Proofs.Qxb6604108a
open Go.RowKit
set_option linter.unusedVariables false
set_option linter.unusedSimpArgs false

/-- What a release of set number i of bucket number j does to the buckets. -/
def RelAt (st : List Bucket) (j i : Nat) (B : Bucket) (s : KS) (st' : List Bucket) : Prop :=
  (1 < s.n ∧ st' = st.set j ⟨B.fp, B.v, B.sets.set i ⟨s.b, s.keys, s.n - 1⟩⟩) ∨
  (s.n = 1 ∧ B.sets.length = 1 ∧ st' = st.eraseIdx j) ∨
  (s.n = 1 ∧ 1 < B.sets.length ∧ ∃ v', st' = st.set j ⟨B.fp, v', B.sets.eraseIdx i⟩)

theorem SetAt.below {w w' : World} {base : Nat} {s : KS} (h : SetAt w base s) (hb : Below w.heap.size w w') : SetAt w' base s :=
  SetAt.kept h (S := fun _ => False) (fun k hk _ => hb.block k hk) (fun h => h) (fun _ _ h => h.elim) (fun _ h => h.elim)

theorem grown_drew {w w' : World} {row : Option Nat} (h : w.drew.grownBy w' row) : w.grownBy w' row := ⟨h.os, h.tape, h.output, h.size, h.block⟩

theorem eraseIdx_set_same {α : Type} : ∀ (l : List α) (j : Nat) (x : α), (l.set j x).eraseIdx j = l.eraseIdx j
  | [], _, _ => by simp
  | _ :: _, 0, _ => by simp
  | a :: l, j + 1, x => by simp [eraseIdx_set_same l j x]

/-- The map's entry goes with the bucket's last set. -/
theorem del_last {w2 w3 : World} {bc bm base : Nat} {st : List Bucket} (hc : Cache w2 bc bm base st) {j i : Nat} {B : Bucket} {s : KS} (hB : st[j]? = some B) (hs : B.sets[i]? = some s) {g cap : Nat} (hv : B.v = .slice (some ⟨g, 0, none⟩) B.sets.length cap)
    (hblk : ∃ cur', w3.heap[g]? = some (.cells cur' 29 (0, 0)) ∧ cur'.size = cap ∧ ∀ q, q < B.sets.length - 1 → cur'[q]? = some (P0 (shv (B.sets.map (·.b)) i (B.sets.length - 1) q))) (hg3 : w2.grownBy w3 (some g)) (h1 : B.sets.length = 1) :
    ∃ w4, (∀ t, (Builtin.delete_ #[50, 40] t #[.map (some bm), .int .u64 B.fp]).run Try.prog w3.drew = .ok (.tuple #[]) w4) ∧ Cache w4 bc bm base (st.eraseIdx j) ∧ SetAt w4 base s ∧ Off (fun k => k = bm ∨ base ≤ k) w2 w4 ∧
      ∀ b o v, b ≠ bm → w3.cell? ⟨b, o, none⟩ = some v → w4.cell? ⟨b, o, none⟩ = some v := by
  have mB := List.mem_of_getElem? hB
  have hgb : base ≤ g := ((hc.row B mB).lt g (by rw [hv]; rfl)).1
  have hlbm := hc.lbm
  have hm3 : mapIs w3.drew bm (mapOf st) := hc.map.keep (hg3.block bm (by have := hc.lsz; omega) (fun e => by have := Option.some.inj e; omega))
  have hj : (mapOf st)[j]? = some (B.fp, B.v) := by simp [mapOf, hB]
  obtain ⟨w4, r1, r2, r3⟩ := hm3.delete_old hc.nd hj
  have r3' := grown_drew r3
  have hmo : mapIs w4 bm (mapOf (st.eraseIdx j)) := by unfold mapOf; rw [map_eraseIdx']; exact r2
  obtain ⟨c1, c2, c3⟩ := cache_drop hc hB hs hv hblk hg3 r3' (Or.inl ⟨h1, rfl⟩) hmo
  exact ⟨w4, r1, c1, c2, c3, fun b o v hb h => r3'.cell h (by simpa using hb)⟩

/-- The bucket's slice is stored anew. -/
theorem del_mid {w2 w3 : World} {bc bm base : Nat} {st : List Bucket} (hc : Cache w2 bc bm base st) {j i : Nat} {B : Bucket} {s : KS} (hB : st[j]? = some B) (hs : B.sets[i]? = some s) {g cap : Nat} (hv : B.v = .slice (some ⟨g, 0, none⟩) B.sets.length cap)
    (hblk : ∃ cur', w3.heap[g]? = some (.cells cur' 29 (0, 0)) ∧ cur'.size = cap ∧ ∀ q, q < B.sets.length - 1 → cur'[q]? = some (P0 (shv (B.sets.map (·.b)) i (B.sets.length - 1) q))) (hg3 : w2.grownBy w3 (some g)) (h1 : 1 < B.sets.length) :
    ∃ w4, (Instr.mapUpdate 50 (.map (some bm)) (.int .u64 B.fp) (.slice (some ⟨g, 0, none⟩) (B.sets.length - 1) cap)).run Try.prog w3.drew = .ok () w4 ∧ Cache w4 bc bm base (st.set j ⟨B.fp, .slice (some ⟨g, 0, none⟩) (B.sets.length - 1) cap, B.sets.eraseIdx i⟩) ∧ SetAt w4 base s ∧ Off (fun k => k = bm ∨ base ≤ k) w2 w4 ∧
      ∀ b o v, b ≠ bm → w3.cell? ⟨b, o, none⟩ = some v → w4.cell? ⟨b, o, none⟩ = some v := by
  have mB := List.mem_of_getElem? hB
  have hgb : base ≤ g := ((hc.row B mB).lt g (by rw [hv]; rfl)).1
  have hlbm := hc.lbm
  have hm3 : mapIs w3.drew bm (mapOf st) := hc.map.keep (hg3.block bm (by have := hc.lsz; omega) (fun e => by have := Option.some.inj e; omega))
  have hj : (mapOf st)[j]? = some (B.fp, B.v) := by simp [mapOf, hB]
  obtain ⟨w4, r1, r2, r3⟩ := hm3.update_old hc.nd hj (.slice (some ⟨g, 0, none⟩) (B.sets.length - 1) cap)
  have r3' := grown_drew r3
  have hmo : mapIs w4 bm (mapOf (st.set j ⟨B.fp, .slice (some ⟨g, 0, none⟩) (B.sets.length - 1) cap, B.sets.eraseIdx i⟩)) := by unfold mapOf; rw [List.map_set]; exact r2
  obtain ⟨c1, c2, c3⟩ := cache_drop hc hB hs hv hblk hg3 r3' (Or.inr ⟨h1, rfl⟩) hmo
  exact ⟨w4, r1, c1, c2, c3, fun b o v hb h => r3'.cell h (by simpa using hb)⟩

attribute [local go_sem ↓] Go.wp_at_zero Go.wp_at_succ

set_option maxHeartbeats 400000 in
theorem releaseNil_any (bc : Nat) (w : World) :
    Calls Try.prog 30 #[.pointer (some ⟨bc, 0, none⟩), .pointer none] w fun e w' => e = .returned (.tuple #[]) ∧ w' = w.alloc (.cells #[.pointer none] 29) := by
  go_enter Try.func30, Try.ntmps30
  go_wp2
  refine bodyPost_ret (results_none rfl _ _ _) rfl ?_
  exact ⟨rfl, rfl⟩

set_option maxHeartbeats 1000000 in
theorem release_any (bc bm base : Nat) (st : List Bucket) (w : World) (hc : Cache w bc bm base st) (j i : Nat) (B : Bucket) (s : KS) (hB : st[j]? = some B) (hs : B.sets[i]? = some s) (hn1 : 1 ≤ s.n) (hn2 : s.n ≤ 1048576) (hL : B.sets.length ≤ 1048576) :
    Calls Try.prog 30 #[.pointer (some ⟨bc, 0, none⟩), .pointer (some ⟨s.b, 0, none⟩)] w fun e w' => e = .returned (.tuple #[]) ∧ ∃ st', Cache w' bc bm base st' ∧ RelAt st j i B s st' ∧ SetAt w' base ⟨s.b, s.keys, s.n - 1⟩ ∧ Off (fun k => k = bm ∨ base ≤ k) w w' := by
  have mB := List.mem_of_getElem? hB
  have ms := List.mem_of_getElem? hs
  have hsa := (hc.set B mB s ms).1
  obtain ⟨hsb, hkl, a, cap, sm, e1, _⟩ := hsa
  have hslt := lt_of_blk e1
  -- the count, and the box of the parameter
  have hc1 := cache_setN hc hB hs (s.n - 1)
  have hS1 : SetAt (w.setCell ⟨s.b, 2, none⟩ (.int .i64 (s.n - 1))) base ⟨s.b, s.keys, s.n - 1⟩ :=
    (hc1.set _ (List.mem_of_getElem? (List.getElem?_set_self (List.getElem?_eq_some_iff.1 hB).1)) _ (List.mem_of_getElem? (List.getElem?_set_self (List.getElem?_eq_some_iff.1 hs).1))).1
  have hbl : Below (w.setCell ⟨s.b, 2, none⟩ (.int .i64 (s.n - 1))).heap.size (w.setCell ⟨s.b, 2, none⟩ (.int .i64 (s.n - 1))) ((w.setCell ⟨s.b, 2, none⟩ (.int .i64 (s.n - 1))).alloc (.cells #[.pointer (some ⟨s.b, 0, none⟩)] 29)) := below_alloc' (Below.refl _ _) _
  have HC2 := Hid.mk (hc1.below hbl)
  have HS2 := Hid.mk (hS1.below hbl)
  have c2 := cell_of_block e1 2
  have f2 := free_of_block e1 2
  simp only [List.getElem?_toArray, List.getElem?_cons_zero, List.getElem?_cons_succ] at c2
  have HOF : Hid (Off (fun k => k = bm ∨ base ≤ k) w ((w.setCell ⟨s.b, 2, none⟩ (.int .i64 (s.n - 1))).alloc (.cells #[.pointer (some ⟨s.b, 0, none⟩)] 29))) := ((Off.refl _ _).setCell _ (fun _ => Or.inr hsb) _).alloc _
  clear hc1 hS1 hbl e1
  by_cases hn : 1 < s.n
  · have hg : (0 : Int) < s.n - 1 := by omega
    clear hB hs mB ms hc
    go_enter Try.func30, Try.ntmps30
    go_wp2_with fail
    refine bodyPost_ret (results_none rfl _ _ _) rfl ?_
    exact ⟨rfl, _, HC2.out, Or.inl ⟨hn, rfl⟩, HS2.out, HOF.out⟩
  · have hg : ¬ (0 : Int) < s.n - 1 := by omega
    have hn1' : s.n = 1 := by omega
    obtain ⟨g, capB, hv, _⟩ := (hc.row B mB).form (List.length_pos_iff.2 (hc.ne B mB))
    have HN1 : Hid (s.n = 1) := hn1'
    have HB : Hid (st[j]? = some B) := hB
    have HSS : Hid (B.sets[i]? = some s) := hs
    have HV : Hid (B.v = .slice (some ⟨g, 0, none⟩) B.sets.length capB) := hv
    clear hB hs mB ms hn1' hn hv hc
    go_enter Try.func30, Try.ntmps30
    go_wp2_with fail
    obtain ⟨w2, hw2⟩ : ∃ w2, w2 = (w.setCell ⟨s.b, 2, none⟩ (.int .i64 (s.n - 1))).alloc (.cells #[.pointer (some ⟨s.b, 0, none⟩)] 29) := ⟨_, rfl⟩
    rw [← hw2]
    rw [← hw2] at HC2 HS2 HOF
    obtain ⟨bx, hbx⟩ : ∃ bx, bx = w.heap.size := ⟨_, rfl⟩
    rw [← hbx]
    have hbxc : w2.cell? ⟨bx, 0, none⟩ = some (.pointer (some ⟨s.b, 0, none⟩)) := by
      rw [hw2, hbx]
      have := heap_alloc_new (w.setCell ⟨s.b, 2, none⟩ (.int .i64 (s.n - 1))) (.cells #[.pointer (some ⟨s.b, 0, none⟩)] 29)
      have hsz : (w.setCell ⟨s.b, 2, none⟩ (.int .i64 (s.n - 1))).heap.size = w.heap.size := by simp [World.setCell]
      rw [hsz] at this
      exact cell_of_block this 0
    -- from here on: the buckets with the count written, by letters
    obtain ⟨B0, hB0e⟩ : ∃ B0, B0 = (⟨B.fp, B.v, B.sets.set i ⟨s.b, s.keys, s.n - 1⟩⟩ : Bucket) := ⟨_, rfl⟩
    obtain ⟨st0, hst0⟩ : ∃ st0, st0 = st.set j B0 := ⟨_, rfl⟩
    obtain ⟨s0, hs0e⟩ : ∃ s0, s0 = (⟨s.b, s.keys, s.n - 1⟩ : KS) := ⟨_, rfl⟩
    rw [← hs0e] at hB0e HS2
    rw [← hs0e, ← hB0e, ← hst0] at HC2
    have hB0 : st0[j]? = some B0 := by rw [hst0]; exact List.getElem?_set_self (List.getElem?_eq_some_iff.1 HB.out).1
    have hs0 : B0.sets[i]? = some s0 := by rw [hB0e]; exact List.getElem?_set_self (List.getElem?_eq_some_iff.1 HSS.out).1
    have hl0 : B0.sets.length = B.sets.length := by rw [hB0e]; simp
    have hv0 : B0.v = .slice (some ⟨g, 0, none⟩) B0.sets.length capB := by rw [hl0, hB0e]; exact HV.out
    have hs0b : s0.b = s.b := by rw [hs0e]
    have hfp : fpOf s0.keys = B0.fp := (HC2.out.set B0 (List.mem_of_getElem? hB0) s0 (List.mem_of_getElem? hs0)).2
    have hfin1 : Hid (B0.sets.length = 1 → RelAt st j i B s (st0.eraseIdx j)) := fun h => by
      refine Or.inr (Or.inl ⟨HN1.out, by omega, ?_⟩)
      rw [hst0]; exact eraseIdx_set_same st j B0
    have hfin2 : Hid (1 < B0.sets.length → RelAt st j i B s (st0.set j ⟨B0.fp, .slice (some ⟨g, 0, none⟩) (B0.sets.length - 1) capB, B0.sets.eraseIdx i⟩)) := fun h => by
      refine Or.inr (Or.inr ⟨HN1.out, by omega, .slice (some ⟨g, 0, none⟩) (B0.sets.length - 1) capB, ?_⟩)
      rw [hst0, List.set_set]
      have e1 : B0.sets.eraseIdx i = B.sets.eraseIdx i := by rw [hB0e]; exact eraseIdx_set_same _ _ _
      have e2 : B0.fp = B.fp := by rw [hB0e]
      rw [e1, e2]
    have HS3 : Hid (∀ x, SetAt x base s0 → SetAt x base ⟨s.b, s.keys, s.n - 1⟩) := fun x h => by rw [← hs0e]; exact h
    have hgx : bx ≠ g := by rw [hbx]; omega
    have hbxs : bx ≠ s.b := by rw [hbx]; omega
    have hbxb : base ≤ bx := by rw [hbx]; omega
    have hml : B0.sets.length ≤ 1048576 := by omega
    clear hst0 hB0e hs0e hw2 hbx c2 f2 hl0
    have mB0 := List.mem_of_getElem? hB0
    have hgb : base ≤ g := ((HC2.out.row B0 mB0).lt g (by rw [hv0]; rfl)).1
    obtain ⟨cur, hcur, hcsz, hcc, hcmx, hctk⟩ : ∃ cur, w2.heap[g]? = some (.cells cur 29 (0, 0)) ∧ cur.size = capB ∧ B0.sets.length ≤ capB ∧ capB ≤ maxLen ∧ cur.toList.take (B0.sets.length * 1) = B0.sets.map ptr := by
      rcases (HC2.out.row B0 mB0).2 with ⟨h1, _⟩ | ⟨g', c', cur, h1, _, h2, h3, h4, h5, h6⟩
      · rw [hv0] at h1; cases h1
      · rw [hv0] at h1; cases h1; exact ⟨cur, h2, by omega, h3, h4, h6⟩
    have hdel := Hid.mk (deleteFunc_any g B0.sets.length capB s.b bx i (B0.sets.map (·.b)) w2.drew cur (by simp [Hid]) (by omega) hcur hcsz hcc (by unfold maxLen at hcmx; omega)
      (fun q b hq => by
        rw [List.getElem?_map] at hq
        cases ht : B0.sets[q]? with
        | none => rw [ht] at hq; cases hq
        | some t =>
          rw [ht] at hq; simp at hq; subst hq
          refine ⟨?_, (HC2.out.set B0 mB0 t (List.mem_of_getElem? ht)).1.blk⟩
          have hql : q < B0.sets.length := (List.getElem?_eq_some_iff.1 ht).1
          have := congrArg (·[q]?) hctk
          simp only [List.getElem?_take, Nat.mul_one, if_pos hql, List.getElem?_map, ht, Array.getElem?_toList] at this
          exact this)
      (blocks_in HC2.out.blocks hB0) hgx hbxc (by simp [hs0, hs0b]))
    have hlk := HC2.out.map.look HC2.out.nd B0.fp
    have hlk2 : lookV (mapOf st0) B0.fp = B0.v := by unfold lookV; rw [find_of_at HC2.out.nd (j := j) (v := B0.v) (by simp [mapOf, hB0])]; rfl
    rw [hlk2, hv0] at hlk
    have l1 : (Instr.lookup 50 (.map (some bm)) (.int .u64 B0.fp) false).run Try.prog w2.drew = .ok (.slice (some ⟨g, 0, none⟩) B0.sets.length capB) w2.drew := by
      have := (HC2.out.drewN 1).map.look HC2.out.nd B0.fp
      rw [hlk2, hv0] at this; exact this
    have hxc : w2.cell? ⟨bc, 0, none⟩ = some (.map (some bm)) := cell_of_block HC2.out.box 0
    have hxs : w2.cell? ⟨s.b, 1, none⟩ = some (.int .u64 B0.fp) := by
      obtain ⟨_, _, _, _, c1, _⟩ := (HC2.out.set B0 mB0 s0 (List.mem_of_getElem? hs0)).1.cells
      rw [hs0b, hfp] at c1; exact c1
    have hbcb := HC2.out.lbc
    have hbmb := HC2.out.lbm
    have hbcm : bc ≠ bm := fun e => by
      obtain ⟨es, cl, e1, _⟩ := HC2.out.map
      have := HC2.out.box
      rw [e, e1] at this; cases this
    have hsg : s.b ≠ g := fun e => by
      obtain ⟨c1, t1, e1⟩ := (HC2.out.set B0 mB0 s0 (List.mem_of_getElem? hs0)).1.blk
      obtain ⟨_, _, a, cap, sm, e1, _⟩ := (HC2.out.set B0 mB0 s0 (List.mem_of_getElem? hs0)).1
      rw [hs0b, e, hcur] at e1; cases e1
    have HB0 : Hid (st0[j]? = some B0) := hB0
    have HS0 : Hid (B0.sets[i]? = some s0) := hs0
    have HV0 : Hid (B0.v = .slice (some ⟨g, 0, none⟩) B0.sets.length capB) := hv0
    clear hB0 hs0 hv0 hs0b hfp hcur hcsz hcc hcmx hctk mB0 hlk hlk2
    obtain ⟨m, hm⟩ : ∃ m, m = B0.sets.length := ⟨_, rfl⟩
    rw [← hm] at hdel l1 hml
    have HM : Hid (m = B0.sets.length) := hm
    clear hm
    obtain ⟨F, hF⟩ : ∃ F, F = B0.fp := ⟨_, rfl⟩
    rw [← hF] at hxs l1
    have HF : Hid (F = B0.fp) := hF
    clear hF hL hkl
    go_region_held3 (fun w' => w'.cell? ⟨bc, 0, none⟩ = some (.map (some bm)) ∧ w'.cell? ⟨bx, 0, none⟩ = some (.pointer (some ⟨s.b, 0, none⟩)) ∧ w'.cell? ⟨s.b, 1, none⟩ = some (.int .u64 F))
      (first | exact ⟨y1, y2, y3⟩ | go_keep)
      ((go_at_call 34; refine hdel.out.mono ?_; rintro e w3 ⟨rfl, hblk3, hg3⟩; have y1 := keep_far hg3 (b := bc) (by simp; omega) (by exact lt_of_blk HC2.out.box) 0 _ hxc; have y2 := keep_far hg3 (b := bx) (by simp; omega) (by exact World.block_lt_of_cell? _ _ hbxc) 0 _ hbxc; have y3 := keep_far hg3 (b := s.b) (by simp; omega) (by exact World.block_lt_of_cell? _ _ hxs) 1 _ hxs))
    all_goals
      have hblk4 := hblk3
      rw [HM.out] at hblk4
      have hg3' := grown_drew hg3
      by_cases hm1 : m = 1
      · obtain ⟨w4, r1, r2, r3, r4, r5⟩ := del_last HC2.out HB0.out HS0.out HV0.out hblk4 hg3' (by rw [← HM.out]; exact hm1)
        have hfin := hfin1.out (by rw [← HM.out]; exact hm1)
        rw [← HF.out] at r1
        have z1 := r5 bc 0 _ (by omega) y1
        have z2 := r5 bx 0 _ (by omega) y2
        have z3 := r5 s.b 1 _ (by omega) y3
        have hz : (((m - 1 : Nat) : Int) == 0) = true := by simp; omega
        have HFIN : Hid (∃ st', Cache w4 bc bm base st' ∧ RelAt st j i B s st' ∧ SetAt w4 base ⟨s.b, s.keys, s.n - 1⟩ ∧ Off (fun k => k = bm ∨ base ≤ k) w w4) :=
          ⟨_, r2, hfin, HS3.out _ r3, HOF.out.trans r4 (fun _ _ h => h)⟩
        clear hfin r2 r3 r4 r5 hblk3 hblk4 hg3 hg3' hxc hxs hbxc l1 hm1
        go_wp2_with fail
        go_region_held3 (fun w' => w'.cell? ⟨bc, 0, none⟩ = some (.map (some bm)) ∧ w'.cell? ⟨bx, 0, none⟩ = some (.pointer (some ⟨s.b, 0, none⟩)) ∧ w'.cell? ⟨s.b, 1, none⟩ = some (.int .u64 F))
          (first | exact ⟨z1, z2, z3⟩ | exact ⟨y1, y2, y3⟩ | go_keep) (fail)
        go_wp2_with fail
        go_end0
        exact ⟨rfl, HFIN.out⟩
      · have hm2 : 1 < m := by
          have := (List.getElem?_eq_some_iff.1 HS0.out).1
          rw [← HM.out] at this; omega
        obtain ⟨w4, r1, r2, r3, r4, r5⟩ := del_mid HC2.out HB0.out HS0.out HV0.out hblk4 hg3' (by rw [← HM.out]; exact hm2)
        have hfin := hfin2.out (by rw [← HM.out]; exact hm2)
        rw [← HF.out, ← HM.out] at r1
        have z1 := r5 bc 0 _ (by omega) y1
        have z2 := r5 bx 0 _ (by omega) y2
        have z3 := r5 s.b 1 _ (by omega) y3
        have hz : (((m - 1 : Nat) : Int) == 0) = false := by simp; omega
        have HFIN : Hid (∃ st', Cache w4 bc bm base st' ∧ RelAt st j i B s st' ∧ SetAt w4 base ⟨s.b, s.keys, s.n - 1⟩ ∧ Off (fun k => k = bm ∨ base ≤ k) w w4) :=
          ⟨_, r2, hfin, HS3.out _ r3, HOF.out.trans r4 (fun _ _ h => h)⟩
        clear hfin r2 r3 r4 r5 hblk3 hblk4 hg3 hg3' hxc hxs hbxc l1 hm1
        go_wp2_with fail
        go_region_held3 (fun w' => w'.cell? ⟨bc, 0, none⟩ = some (.map (some bm)) ∧ w'.cell? ⟨bx, 0, none⟩ = some (.pointer (some ⟨s.b, 0, none⟩)) ∧ w'.cell? ⟨s.b, 1, none⟩ = some (.int .u64 F))
          (first | exact ⟨z1, z2, z3⟩ | exact ⟨y1, y2, y3⟩ | go_keep) (fail)
        go_wp2_with fail
        go_end0
        exact ⟨rfl, HFIN.out⟩

end Go.Proofs.Qxb6604108a
