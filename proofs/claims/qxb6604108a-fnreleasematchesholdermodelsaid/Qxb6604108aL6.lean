import Derived.Test.Qxb6604108aBal
import Derived.Test.Qxb6604108aV2
namespace Go.Proofs.Qxb6604108a
open Go.RowKit
set_option linter.unusedVariables false
set_option linter.unusedSimpArgs false

/-- The handles as they lie in their row. -/
def HRow (w : World) (gh n : Nat) (bs : List Nat) : Prop := ∃ cur, w.heap[gh]? = some (.cells cur 29 (0, 0)) ∧ cur.size = n ∧ ∀ (j b : Nat), bs[j]? = some b → cur[j]? = some (P0 b)

theorem HRow.keep {w w' : World} {gh n : Nat} {bs : List Nat} (h : HRow w gh n bs) (e : w'.heap[gh]? = w.heap[gh]?) : HRow w' gh n bs := by
  obtain ⟨cur, h1, h2, h3⟩ := h
  exact ⟨cur, e.trans h1, h2, h3⟩
theorem HRow.cell {w : World} {gh n : Nat} {bs : List Nat} (h : HRow w gh n bs) {j b : Nat} (hb : bs[j]? = some b) : w.cell? ⟨gh, j, none⟩ = some (.pointer (some ⟨b, 0, none⟩)) := by
  obtain ⟨cur, h1, h2, h3⟩ := h
  rw [cell_of_block h1]; exact h3 j b hb
theorem HRow.lt {w : World} {gh n : Nat} {bs : List Nat} (h : HRow w gh n bs) : gh < w.heap.size := by
  obtain ⟨cur, h1, _⟩ := h; exact lt_of_blk h1
theorem HRow.push {w : World} {gh n k : Nat} {bs : List Nat} (h : HRow w gh n bs) (hk : bs.length = k) (hkn : k < n) (b : Nat) : HRow (w.setCell ⟨gh, k, none⟩ (.pointer (some ⟨b, 0, none⟩))) gh n (bs ++ [b]) := by
  obtain ⟨cur, h1, h2, h3⟩ := h
  refine ⟨cur.setIfInBounds k (P0 b), block_setCell h1 _ _, by simp [h2], fun j x hx => ?_⟩
  rw [Array.getElem?_setIfInBounds]
  by_cases hjk : k = j
  · subst hjk
    rw [if_pos rfl, if_pos (by omega)]
    rw [List.getElem?_append_right (by omega)] at hx
    simp [hk] at hx; rw [hx]
  · rw [if_neg hjk]
    by_cases hj : j < bs.length
    · rw [List.getElem?_append_left hj] at hx
      exact h3 j x hx
    · rw [List.getElem?_append_right (by omega)] at hx
      have : j - bs.length ≠ 0 := by omega
      obtain ⟨q, hq⟩ : ∃ q, j - bs.length = q + 1 := ⟨j - bs.length - 1, by omega⟩
      rw [hq] at hx; simp at hx

theorem cache_base {w : World} {bc bm base base' : Nat} (h : Cache w bc bm base []) (h1 : base ≤ base') (h2 : base' ≤ w.heap.size) : Cache w bc bm base' [] :=
  ⟨by have := h.lbc; omega, by have := h.lbm; omega, h2, h.box, h.map, by simp, by simp, by simp, by simp, by simp, by simp [setsOf]⟩

theorem Cache.blkOf {w : World} {bc bm base : Nat} {st : List Bucket} (hc : Cache w bc bm base st) {s : KS} (hs : s ∈ setsOf st) : SetAt w base s := by
  obtain ⟨q, C, hq, ht⟩ := mem_setsOf.1 hs
  exact (hc.set C (List.mem_of_getElem? hq) s ht).1

/-- A store below the base beside the cache's two blocks. -/
theorem Cache.setBeside {w : World} {bc bm base : Nat} {st : List Bucket} (hc : Cache w bc bm base st) {g o : Nat} (h1 : g < base) (h2 : g ≠ bc) (h3 : g ≠ bm) (v : Value) : Cache (w.setCell ⟨g, o, none⟩ v) bc bm base st :=
  hc.keep (by simp [World.setCell]) (fun k hk h => Below.heap_setCell _ _ _ _ (by simp only; omega))

/-- Behind a hold the handles' row is as it was. -/
theorem hold_beside {w1 wr w4 : World} {n k : Nat} {bs : List Nat} {st : List Bucket} (hr : HRow wr (w1.heap.size + 2) n bs) (hb : Below w1.heap.size w1 wr) (ho : Off (fun k => k = w1.heap.size ∨ w1.heap.size + 3 ≤ k) wr w4) (hk : k < n) (hc : Cache wr (w1.heap.size + 1) w1.heap.size (w1.heap.size + 3) st) :
    ∃ v0, w4.cell? ⟨w1.heap.size + 2, k, none⟩ = some v0 ∧ w4.frozen? ⟨w1.heap.size + 2, k, none⟩ = false ∧ HRow w4 (w1.heap.size + 2) n bs ∧ Below w1.heap.size w1 w4 := by
  have h4 : HRow w4 (w1.heap.size + 2) n bs := hr.keep (ho.block _ hr.lt (by omega))
  have hb4 : Below w1.heap.size w1 w4 := hb.trans (ho.below (by have := hc.lsz; omega) (fun j hj => by omega))
  obtain ⟨cur, h1, h2, h3⟩ := h4
  obtain ⟨v0, hv0⟩ := cell_at_block h1 k (by omega)
  exact ⟨v0, hv0, free_of_block h1 k, ⟨cur, h1, h2, h3⟩, hb4⟩

/-- The set of the next handle. -/
theorem Bal.find {st : List Bucket} {b : Nat} {rest : List Nat} (h : Bal st (b :: rest)) : ∃ (j i : Nat) (B : Bucket) (s : KS), st[j]? = some B ∧ B.sets[i]? = some s ∧ s.b = b ∧ s.n = (rest.count b : Nat) + 1 := by
  obtain ⟨s, hs, e⟩ := h.mem b (by simp)
  have hn := (h.cnt s hs).1
  obtain ⟨j, B, hB, ht⟩ := mem_setsOf.1 hs
  obtain ⟨i, hi⟩ := List.getElem?_of_mem ht
  refine ⟨j, i, B, s, hB, hi, e, ?_⟩
  rw [hn, e]; simp

theorem Bal.after {w : World} {bc bm base : Nat} {st : List Bucket} (hc : Cache w bc bm base st) {b : Nat} {rest : List Nat} (h : Bal st (b :: rest)) {j i : Nat} {B : Bucket} {s : KS} (hB : st[j]? = some B) (hs : B.sets[i]? = some s) (hsb : s.b = b) {st' : List Bucket} (hr : RelAt st j i B s st') : Bal st' rest :=
  h.release hc hB hs hr (fun x => by
    rw [List.count_cons, hsb]
    by_cases e : b = x
    · subst e; simp
    · have e' : ¬ x = b := fun h => e h.symm
      simp [e, e'])

theorem inSt_after {w : World} {bc bm base : Nat} {st : List Bucket} (hc : Cache w bc bm base st) {b c : Nat} {j i : Nat} {B : Bucket} {s : KS} (hB : st[j]? = some B) (hs : B.sets[i]? = some s) (hsb : s.b = b) {st' : List Bucket} (hr : RelAt st j i B s st') (hn : s.n = (c : Nat) + 1) : inSt st' b = decide (0 < c) := by
  rcases (hr.view hc hB hs).1 with ⟨h1, hm⟩ | ⟨h1, hm⟩
  · rw [decide_eq_true (by omega : 0 < c), inSt_true]
    exact List.mem_map.2 ⟨_, (hm _).2 (Or.inl rfl), hsb⟩
  · rw [decide_eq_false (by omega : ¬ 0 < c), inSt_false]
    intro h
    obtain ⟨t, ht, e⟩ := List.mem_map.1 h
    exact ((hm t).1 ht).2 (by rw [e, hsb])

theorem rel_pack {w1 wr w4 : World} {k b : Nat} {bs rest : List Nat} {st2 st3 : List Bucket} {j i : Nat} {B : Bucket} {s : KS} (hc : Cache wr (w1.heap.size + 1) w1.heap.size (w1.heap.size + 3) st2) (hbal : Bal st2 (b :: rest)) (hB : st2[j]? = some B) (hs : B.sets[i]? = some s) (hsb : s.b = b)
    (hsn : s.n = (rest.count b : Nat) + 1) (hsl : (setsOf st2).length ≤ k) (hrow : HRow wr (w1.heap.size + 2) k bs) (hbel : Below w1.heap.size w1 wr) (h1 : Cache w4 (w1.heap.size + 1) w1.heap.size (w1.heap.size + 3) st3) (h2 : RelAt st2 j i B s st3)
    (h3 : SetAt w4 (w1.heap.size + 3) ⟨b, s.keys, s.n - 1⟩) (h4 : Off (fun k => k = w1.heap.size ∨ w1.heap.size + 3 ≤ k) wr w4) :
    ∃ t : KS, t.b = b ∧ t.n = ((rest.count b : Nat) : Int) ∧ SetAt w4 (w1.heap.size + 3) t ∧ Bal st3 rest ∧ (setsOf st3).length ≤ k ∧ HRow w4 (w1.heap.size + 2) k bs ∧ Below w1.heap.size w1 w4 ∧ inSt st3 b = decide (0 < rest.count b) := by
  refine ⟨⟨b, s.keys, s.n - 1⟩, rfl, by simp only; omega, h3, hbal.after hc hB hs hsb h2, ?_, hrow.keep (h4.block _ hrow.lt (by omega)), hbel.trans (h4.below (by have := hc.lsz; omega) (fun j hj => by omega)), inSt_after hc hB hs hsb h2 hsn⟩
  have := (h2.view hc hB hs).2
  omega

set_option maxHeartbeats 2000000 in
theorem law6_any (a : Option Addr) (n cap : Nat) (ls : List (List Key)) (w : World) (Hn : Hid (ls.length = n)) (hr : LReads w a ls) (hmax : n ≤ 9223372036854775807) (h0 : a = none → n = 0) :
    Calls Try.prog 6 #[.slice a n cap] w fun e w' => e = .returned (.bool true) ∧ Below w.heap.size w w' := by
  have HR : Hid (LReads w a ls) := hr
  have H0 : Hid (a = none → n = 0) := h0
  clear hr h0
  go_enter Try.func6, Try.ntmps6
  go_wp2_with fail
  refine (bytes28_any a n cap ls w Hn HR.out hmax).mono ?_
  rintro e w' ⟨⟨r, rfl⟩, hww⟩
  subst w'
  cases r with
  | false =>
    go_wp2_with fail
    go_ret
    exact ⟨rfl, Below.refl _ _⟩
  | true =>
    go_wp2_with fail
    refine (listsFit_any a n cap 0 ls w Hn HR.out hmax (by omega) (by omega)).mono ?_
    rintro e w' ⟨⟨r, rfl, hfit⟩, hww⟩
    subst w'
    cases r with
    | false =>
      clear hfit
      go_wp2_with fail
      go_ret
      exact ⟨rfl, Below.refl _ _⟩
    | true =>
      obtain ⟨hn, hlens⟩ := hfit rfl
      have HLens : Hid (∀ l ∈ ls, l.length ≤ 65536) := hlens
      clear hfit hlens
      go_wp2_with fail
      refine (copyLists_any a n cap ls w Hn HR.out hn HLens.out H0.out).mono ?_
      rintro e w1 ⟨⟨a1, cap1, rfl, hlr, ha1⟩, hb1⟩
      have HL1 : Hid (LReads w1 a1 ls) := hlr
      have hmk := mk28 n hn
      have hCN := cache_new w1
      clear hlr ha1
      go_wp2_with (first | (go_at_call 10; refine (newCache_any _).mono ?_; rintro e w2 ⟨rfl, hw2⟩; rw [← hw2] at hCN; have hb2 : Below w1.heap.size w1 w2 := (by rw [hw2]; exact below_alloc' (below_alloc' (Below.refl _ _) _) _); have hs2 : w2.heap.size = w1.heap.size + 2 := (by rw [hw2]; simp); clear hw2))
      have hC3 : Hid (Cache (w2.alloc (.cells (repl n (.pointer none)) 29)) (w1.heap.size + 1) w1.heap.size (w1.heap.size + 3) []) := cache_base (hCN.below (below_alloc' (Below.refl _ _) _)) (by omega) (by simp [hs2])
      have hH3 : Hid (HRow (w2.alloc (.cells (repl n (.pointer none)) 29)) (w1.heap.size + 2) n []) := ⟨_, by rw [← hs2]; exact heap_alloc_new w2 _, repl_size _ _, fun j b h => by simp at h⟩
      have hB3 : Hid (Below w1.heap.size w1 (w2.alloc (.cells (repl n (.pointer none)) 29))) := below_alloc' hb2 _
      clear hCN hb2 hs2 hmk
      go_loopw [5] (fun i wr => ∃ (k : Nat) (bs : List Nat) (st : List Bucket), k ≤ n ∧ i = .int .i64 k ∧ bs.length = k ∧ Cache wr (w1.heap.size + 1) w1.heap.size (w1.heap.size + 3) st ∧ Bal st bs ∧ (setsOf st).length ≤ k ∧ HRow wr (w1.heap.size + 2) n bs ∧ Below w1.heap.size w1 wr) (fun i _ => n - (intOf i).toNat)
      case atStart => exact ⟨0, [], [], Nat.zero_le _, rfl, rfl, hC3.out, bal_nil, by simp [setsOf], hH3.out, hB3.out⟩
      case round =>
        clear hC3 hH3 hB3
        obtain ⟨k, bs, st, hk, rfl, hbl, hc, hbal, hsl, hrow, hbel⟩ := hrel
        by_cases hlt : k < n
        · obtain ⟨g, off, l, a', cap', rfl, hg, hl, hcell, hrd, _, _⟩ := (HL1.out.below hbel).at (k := k) (by rw [Hn.out]; exact hlt)
          have hll : l.length ≤ 1048576 := by have := HLens.out l (List.mem_of_getElem? hl); omega
          have HZ := Hid.mk (zzhold_any _ _ _ st a' l.length cap' l wr rfl hrd hll hc (hbal.bounds (N := k) (by omega) hsl (by omega)))
          have HC : Hid (Cache wr (w1.heap.size + 1) w1.heap.size (w1.heap.size + 3) st) := hc
          have HBal : Hid (Bal st bs) := hbal
          have HBl : Hid (bs.length = k) := hbl
          have HRo : Hid (HRow wr (w1.heap.size + 2) n bs) := hrow
          have HBe : Hid (Below w1.heap.size w1 wr) := hbel
          have HSl : Hid ((setsOf st).length ≤ k) := hsl
          obtain ⟨m, hm⟩ : ∃ m, m = l.length := ⟨_, rfl⟩
          rw [← hm] at hcell HZ
          clear hc hbal hbl hrow hbel hsl hrd hll hl hm
          go_wp2_with (first | (go_at_call 12; refine HZ.out.mono ?_; rintro e w4 ⟨b, st', rfl, hc4, hh4, ho4⟩; obtain ⟨v0, c0, f0, HRo4, HBe4⟩ := hold_beside HRo.out HBe.out ho4 hlt HC.out))
          go_roundw
          case rel =>
            have hlen : (setsOf st').length ≤ k + 1 := by
              have h1 := HSl.out
              rcases hh4.view HC.out with ⟨_, _, _, _, _, h⟩ | ⟨_, _, _, h⟩ <;> omega
            exact ⟨k + 1, bs ++ [b], st', by omega, by go_num, by simp [HBl.out], hc4.setBeside (by omega) (by omega) (by omega) _, HBal.out.hold HC.out hh4, hlen, HRo4.push HBl.out hlt b, HBe4.setCell (by simp) _⟩
          case measure => simp [intOf]; omega
        · have hk' : k = n := by omega
          subst hk'
          have HBal : Hid (Bal st bs) := hbal
          have HBl : Hid (bs.length = k) := hbl
          have HRo : Hid (HRow wr (w1.heap.size + 2) k bs) := hrow
          have HBe : Hid (Below w1.heap.size w1 wr) := hbel
          have HSl : Hid ((setsOf st).length ≤ k) := hsl
          have HC : Hid (Cache wr (w1.heap.size + 1) w1.heap.size (w1.heap.size + 3) st) := hc
          obtain ⟨z, hz1, hz2⟩ : ∃ z, ((st.length : Int) == 0) = z ∧ ((k : Int) == 0) = z := by
            refine ⟨_, rfl, ?_⟩
            by_cases h : k = 0
            · have hbn : bs = [] := List.eq_nil_of_length_eq_zero (by rw [hbl, h])
              rw [hbn] at hbal
              rw [hbal.empty hc, h]; rfl
            · have hne : st.length ≠ 0 := fun e => by
                have hs0 := List.eq_nil_of_length_eq_zero e
                have hbp : 0 < bs.length := by omega
                obtain ⟨s, hs, _⟩ := hbal.mem bs[0] (List.getElem_mem hbp)
                rw [hs0] at hs; simp [setsOf] at hs
              have e1 : ((k : Int) == 0) = false := by simp; omega
              have e2 : ((st.length : Int) == 0) = false := by simp; exact fun e => hne (by rw [e]; rfl)
              rw [e1, e2]
          clear hc hbal hbl hrow hbel hsl hlt
          go_wp2_with (first | (go_at_call 22; refine (fingerprints_any _ _ _ _ _ HC.out).mono ?_; rintro e w' ⟨rfl, hww⟩; subst w'))
          clear hz1 hz2
          go_loopw [6] (fun i wx => ∃ (q : Nat) (st2 : List Bucket), q ≤ k ∧ i = .int .i64 q ∧ Cache wx (w1.heap.size + 1) w1.heap.size (w1.heap.size + 3) st2 ∧ Bal st2 (bs.drop q) ∧ (setsOf st2).length ≤ k ∧ HRow wx (w1.heap.size + 2) k bs ∧ Below w1.heap.size w1 wx) (fun i _ => k - (intOf i).toNat)
          case atStart => exact ⟨0, st, Nat.zero_le _, rfl, HC.out, HBal.out, HSl.out, HRo.out, HBe.out⟩
          case round =>
            clear HC HBal HSl HRo HBe
            obtain ⟨q, st2, hq, rfl, hc, hbal, hsl, hrow, hbel⟩ := hrel
            by_cases hlt : q < k
            · obtain ⟨b, hb⟩ : ∃ b, bs[q]? = some b := ⟨_, List.getElem?_eq_getElem (by rw [HBl.out]; exact hlt)⟩
              have hdrop : bs.drop q = b :: bs.drop (q + 1) := by rw [List.drop_eq_getElem_cons (by rw [HBl.out]; exact hlt)]; simp [List.getElem?_eq_getElem (show q < bs.length by rw [HBl.out]; exact hlt)] at hb; rw [hb]
              rw [hdrop] at hbal
              obtain ⟨j, i, B, s, hB, hs, hsb, hsn⟩ := hbal.find
              have hbd := hbal.bounds (N := k + 1) (by have := HBl.out; simp; omega) (by omega) (by omega)
              have hcl : (bs.drop (q + 1)).count b ≤ k := by
                have h1 : (bs.drop (q + 1)).count b ≤ (bs.drop (q + 1)).length := List.count_le_length
                simp [HBl.out] at h1; omega
              have HRel := Hid.mk (zzrelease_any _ _ _ st2 wr hc j i B s hB hs (by omega) (by omega) (hbd B (List.mem_of_getElem? hB)).1)
              have hcell := hrow.cell hb
              have HB : Hid (bs[q]? = some b) := hb
              have HB2 : Hid (Bal st2 (b :: bs.drop (q + 1))) := hbal
              have HC2 : Hid (Cache wr (w1.heap.size + 1) w1.heap.size (w1.heap.size + 3) st2) := hc
              have HSl2 : Hid ((setsOf st2).length ≤ k) := hsl
              have HRo2 : Hid (HRow wr (w1.heap.size + 2) k bs) := hrow
              have HBe2 : Hid (Below w1.heap.size w1 wr) := hbel
              have HBB : Hid (st2[j]? = some B) := hB
              have HSS : Hid (B.sets[i]? = some s) := hs
              have HSB : Hid (s.b = b) := hsb
              have HSN : Hid (s.n = ((bs.drop (q + 1)).count b : Nat) + 1) := hsn
              rw [hsb] at HRel
              clear hbd hc hbal hsl hrow hbel hb hdrop hB hs hsn hsb
              go_wp2_with (first | (go_at_call 26; refine HRel.out.mono ?_; rintro e w4 ⟨rfl, st3, hc4, hr4, hs4, ho4⟩; obtain ⟨t, htb, htn, hta, hbal4, hsl4, hrow4, hbel4, hin4⟩ := rel_pack HC2.out HB2.out HBB.out HSS.out HSB.out HSN.out HSl2.out HRo2.out HBe2.out hc4 hr4 hs4 ho4))
              have hcell4 := hrow4.cell HB.out
              have HC4 : Hid (Cache w4 (w1.heap.size + 1) w1.heap.size (w1.heap.size + 3) st3) := hc4
              have HBl4 : Hid (Bal st3 (bs.drop (q + 1))) := hbal4
              have HSl4 : Hid ((setsOf st3).length ≤ k) := hsl4
              have HRo4 : Hid (HRow w4 (w1.heap.size + 2) k bs) := hrow4
              have HBe4 : Hid (Below w1.heap.size w1 w4) := hbel4
              have HIn4 : Hid (inSt st3 b = decide (0 < (bs.drop (q + 1)).count b)) := hin4
              have HTa : Hid (SetAt w4 (w1.heap.size + 3) t) := hta
              have HTb : Hid (t.b = b) := htb
              have HTn : Hid (t.n = (((bs.drop (q + 1)).count b : Nat) : Int)) := htn
              have HRl : Hid ((bs.drop (q + 1)).length = k - (q + 1)) := show (bs.drop (q + 1)).length = k - (q + 1) by rw [List.length_drop, HBl.out]
              have HP : Hid (∀ (j x : Nat), (bs.drop (q + 1))[j]? = some x → w4.cell? ⟨w1.heap.size + 2, q + 1 + j, none⟩ = some (.pointer (some ⟨x, 0, none⟩)) ∧ IsBlk w4 x) := fun j x hx => by
                rw [List.getElem?_drop] at hx
                refine ⟨hrow4.cell hx, ?_⟩
                obtain ⟨u, hu, rfl⟩ := hbal4.mem x (by
                  have : (bs.drop (q + 1))[j]? = some x := by rw [List.getElem?_drop]; exact hx
                  exact List.mem_of_getElem? this)
                exact (hc4.blkOf hu).blk
              have hIB : Hid (IsBlk w4 b) := by rw [← htb]; exact hta.blk
              have hgl : w1.heap.size + 2 < w4.heap.size := hrow4.lt
              obtain ⟨c, hc⟩ : ∃ c, c = (bs.drop (q + 1)).count b := ⟨_, rfl⟩
              rw [← hc] at HIn4 HTn hcl
              have HCc : Hid (c = (bs.drop (q + 1)).count b) := hc
              clear hc4 hr4 hs4 ho4 hbal4 hsl4 hrow4 hbel4 hin4 hta htb htn hcell hc
              have hq1 : (q : Int) + 1 ≤ (k : Int) := by omega
              have hHo : Hid (∀ x, Calls Try.prog 17 #[.pointer (some ⟨w1.heap.size + 1, 0, none⟩), .pointer (some ⟨b, 0, none⟩)] (w4.drewN x) fun e w' => e = .returned (.bool (decide (0 < c))) ∧ ∃ q, w' = (w4.drewN x).drewN q) := fun x => by
                have := zzheld_any _ _ _ st3 (w4.drewN x) (HC4.out.drewN x) t HTa.out (HBl4.out.bounds (N := k) (by rw [HRl.out]; omega) HSl4.out (by omega))
                rw [HTb.out, HIn4.out] at this
                exact this
              have hc2 : w4.cell? ⟨b, 2, none⟩ = some (.int .i64 (c : Int)) := by
                obtain ⟨_, _, _, _, _, c2, _⟩ := HTa.out.cells
                rw [HTb.out, HTn.out] at c2; exact c2
              have hne0 : (((c : Nat) : Int) != (c : Int)) = false := by simp
              obtain ⟨A, hA, hPr0⟩ : ∃ A, (if k = q + 1 then (some ⟨w1.heap.size + 2, 0, none⟩ : Option Addr) else some ⟨w1.heap.size + 2, q + 1, none⟩) = A ∧ PReads w4 A (bs.drop (q + 1)) := by
                refine ⟨_, rfl, fun i hi => ?_⟩
                rw [HRl.out] at hi
                rw [if_neg (by omega)]
                exact ⟨_, _, rfl, hgl, HP.out⟩
              have hPr := Hid.mk hPr0
              clear hPr0
              go_quiet ((go_at_call 13; exact Calls.quiet_of_same (countPtr_any _ _ _ (bs.drop (q + 1)) b _ HRl (by exact hPr.out) (by exact hIB.out) (by omega))))
              rw [← HCc.out]
              go_wp2_with (first | (go_at_call 16; refine (holders_any _ _ _ (by exact hc2)).mono ?_; rintro e w' ⟨rfl, hww⟩; subst w'))
              refine (hHo.out _).mono ?_
              rintro e w5 ⟨rfl, q5, hw5⟩
              subst w5
              by_cases hcp : 0 < c
              · have hcpI : (0 : Int) < (c : Int) := by omega
                rw [decide_eq_true hcp]
                go_wp2_with fail
                go_roundw
                case rel => exact ⟨q + 1, st3, by omega, by go_num, HC4.out.keep (Nat.le_refl _) (fun _ _ _ => rfl), HBl4.out, HSl4.out, HRo4.out.keep rfl, HBe4.out.trans ⟨rfl, rfl, rfl, Nat.le_refl _, fun _ _ => rfl⟩⟩
                case measure => simp [intOf]; omega
              · have hcpI : ¬ (0 : Int) < (c : Int) := by omega
                rw [decide_eq_false hcp]
                go_wp2_with fail
                go_roundw
                case rel => exact ⟨q + 1, st3, by omega, by go_num, HC4.out.keep (Nat.le_refl _) (fun _ _ _ => rfl), HBl4.out, HSl4.out, HRo4.out.keep rfl, HBe4.out.trans ⟨rfl, rfl, rfl, Nat.le_refl _, fun _ _ => rfl⟩⟩
                case measure => simp [intOf]; omega
            · have hk' : q = k := by omega
              subst hk'
              have hst : st2 = [] := by
                rw [List.drop_eq_nil_of_le (by rw [HBl.out]; exact Nat.le_refl _)] at hbal
                exact hbal.empty hc
              subst hst
              have HC5 := Hid.mk hc
              clear hc hbal hsl hrow hlt
              go_wp2_with (first | (go_at_call 22; refine (fingerprints_any _ _ _ _ _ HC5.out).mono ?_; rintro e w' ⟨rfl, hww⟩; subst w'))
              go_ret
              exact ⟨rfl, hb1.trans (hbel.mono hb1.size)⟩

end Go.Proofs.Qxb6604108a
