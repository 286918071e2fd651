import Derived.Test.Qxb6604108aKv
import Derived.Test.Qxb6604108aShapeW
import Derived.Test.Qxb6604108aL6
namespace Go.Proofs.Qxb6604108a
open Go.RowKit
set_option linter.unusedVariables false
set_option linter.unusedSimpArgs false

/-- The handles in a row that is appended to. -/
def HOwn (w : World) (gh k n : Nat) (bs : List Nat) : Prop := w.ownsRow 0 29 1 (.slice (some ⟨gh, 0, none⟩) k n) k (bs.map P0)

theorem HOwn.len {w : World} {gh k n : Nat} {bs : List Nat} (h : HOwn w gh k n bs) : bs.length = k := by have := h.1; simpa using this
theorem HOwn.block {w : World} {gh k n : Nat} {bs : List Nat} (h : HOwn w gh k n bs) : ∃ cur, w.heap[gh]? = some (.cells cur 29 (0, 0)) ∧ cur.size = n ∧ k ≤ n ∧ ∀ (j b : Nat), bs[j]? = some b → cur[j]? = some (P0 b) := by
  have hl := h.len
  rcases h.2 with ⟨h1, _⟩ | ⟨g, cap, cur, h1, _, h3, h4, _, h6, h7⟩
  · cases h1
  · cases h1
    refine ⟨cur, h3, by omega, h4, fun j b hj => ?_⟩
    have hjl : j < bs.length := (List.getElem?_eq_some_iff.1 hj).1
    have := congrArg (·[j]?) h7
    simp only [List.getElem?_take, Nat.mul_one, List.getElem?_map, hj, Array.getElem?_toList] at this
    rw [if_pos (by omega)] at this
    exact this
theorem HOwn.lt {w : World} {gh k n : Nat} {bs : List Nat} (h : HOwn w gh k n bs) : gh < w.heap.size := by
  obtain ⟨cur, h1, _⟩ := h.block; exact lt_of_blk h1
theorem HOwn.cell {w : World} {gh k n : Nat} {bs : List Nat} (h : HOwn w gh k n bs) {j b : Nat} (hb : bs[j]? = some b) : w.cell? ⟨gh, j, none⟩ = some (.pointer (some ⟨b, 0, none⟩)) := by
  obtain ⟨cur, h1, _, _, h4⟩ := h.block
  rw [cell_of_block h1]; exact h4 j b hb
theorem HOwn.keep {w w' : World} {gh k n : Nat} {bs : List Nat} (h : HOwn w gh k n bs) (e : w'.heap[gh]? = w.heap[gh]?) : HOwn w' gh k n bs := by
  refine ⟨h.1, ?_⟩
  rcases h.2 with h' | ⟨g, cap, cur, h1, h2, h3, h4⟩
  · exact Or.inl h'
  · cases h1
    exact Or.inr ⟨gh, n, cur, rfl, h2, e.trans h3, h4⟩
theorem HOwn.preads {w : World} {bc bm base : Nat} {st : List Bucket} (hc : Cache w bc bm base st) {gh k n : Nat} {bs : List Nat} (h : HOwn w gh k n bs) (hb : Bal st bs) : PReads w (some ⟨gh, 0, none⟩) bs := fun i hi =>
  ⟨gh, 0, rfl, h.lt, fun j b hj => ⟨by rw [Nat.zero_add]; exact h.cell hj, (hb.handle hc b (List.mem_of_getElem? hj)).blk⟩⟩

theorem mk28cap (n : Nat) (hn : n ≤ 4096) (w : World) : (Instr.makeSlice 28 (.int .i64 0) (.int .i64 (n : Int))).run Try.prog w = .ok (.slice (some ⟨w.heap.size, 0, none⟩) 0 n) (w.alloc (.cells (repl n (.pointer none)) 29)) := by
  obtain ⟨i0, hi, hz0, hz1, hz2⟩ := info_parts Try.info29
  rw [run_make w 28 29 i0 _ Try.underlying28 hi hz0 .i64 .i64 0 n (by omega) (by omega) (by rw [hz2]; omega) (by omega)]
  simp only [Int.toNat_natCast, hz1]
  rw [← madeOne]; rfl

theorem Reads.heap {w w' : World} {a : Option Addr} {ks : List Key} (h : Reads w a ks) (e : w'.heap = w.heap) : Reads w' a ks := by
  have hc : ∀ x, w'.cell? x = w.cell? x := fun x => by unfold World.cell?; rw [e]
  intro i hi
  obtain ⟨b, off, ha, hb, hr⟩ := h i hi
  refine ⟨b, off, ha, by rw [e]; exact hb, fun j hj => ?_⟩
  rw [hc, hc, hc]; exact hr j hj

theorem take_count_step {ls : List (List Key)} {ks l : List Key} {j : Nat} (h : ls[j]? = some l) : (ls.take (j + 1)).count ks = (ls.take j).count ks + if l = ks then 1 else 0 := by
  rw [List.take_add_one, h, List.count_append]
  simp only [Option.toList_some, List.count_singleton]
  congr 1
  simp

/-- All that the round asks behind a hold. -/
theorem hold3_pack {w1 wa w4 : World} {q k n : Nat} {bs : List Nat} {st st' : List Bucket} {ls : List (List Key)} {ks : List Key} {b m : Nat} (hc : Cache wa (w1.heap.size + 1) w1.heap.size (w1.heap.size + 3) st) (hbal : Bal st bs) (hkv : Kv st bs ls) (hsl : (setsOf st).length ≤ k)
    (hrow : HOwn wa (w1.heap.size + 2) k n bs) (hbel : Below w1.heap.size w1 wa) (hks : ls[k]? = some ks) (hm : (ls.take bs.length).count ks = m) (hc4 : Cache w4 (w1.heap.size + 1) w1.heap.size (w1.heap.size + 3) st') (hh : HeldBy st ks b (wa.drewN q).heap.size st')
    (ho : Off (fun k => k = w1.heap.size ∨ w1.heap.size + 3 ≤ k) (wa.drewN q) w4) :
    ∃ s : KS, s.b = b ∧ s.keys = ks ∧ s.n = (m : Nat) + 1 ∧ s ∈ setsOf st' ∧ Bal st' (bs ++ [b]) ∧ Kv st' (bs ++ [b]) ls ∧ (setsOf st').length ≤ k + 1 ∧ HOwn w4 (w1.heap.size + 2) k n bs ∧ Below w1.heap.size w1 w4 ∧ PReads w4 (some ⟨w1.heap.size + 2, 0, none⟩) bs ∧
      (m = 0 → bs.count b = 0) ∧ (∀ j, j < bs.length → ls[j]? = some ks → bs[j]? = some b) ∧ inSt st' b = true := by
  have hbl := hrow.len
  obtain ⟨k1, k2, ⟨s, hs, hsb, hsk, hsn⟩, k4⟩ := hkv.hold hc hbal (by rw [hbl]; exact hks) hh hm
  have hbal' := hbal.hold hc hh
  have hrow4 : HOwn w4 (w1.heap.size + 2) k n bs := hrow.keep (ho.block _ hrow.lt (by omega))
  have hlen : (setsOf st').length ≤ k + 1 := by
    rcases hh.view hc with ⟨_, _, _, _, _, h⟩ | ⟨_, _, _, h⟩ <;> omega
  refine ⟨s, hsb, hsk, hsn, hs, hbal', k4, hlen, hrow4, ?_, ?_, k1, k2, ?_⟩
  · exact (hbel.trans (c := wa.drewN q) ⟨rfl, rfl, rfl, Nat.le_refl _, fun _ _ => rfl⟩).trans (ho.below (by have := hc.lsz; simp; omega) (fun j hj => by omega))
  · intro i hi
    refine ⟨_, 0, rfl, hrow4.lt, fun j x hj => ⟨by rw [Nat.zero_add]; exact hrow4.cell hj, ?_⟩⟩
    exact (hbal'.handle hc4 x (by simp [List.mem_of_getElem? hj])).blk
  · rw [inSt_true]; exact List.mem_map.2 ⟨s, hs, hsb⟩

/-- .. and behind the append to the handles. -/
theorem app3_pack {w1 w4 w5 : World} {o : Obj} {k n b : Nat} {bs : List Nat} {st' : List Bucket} {s : KS} (hc : Cache w4 (w1.heap.size + 1) w1.heap.size (w1.heap.size + 3) st') (hrow : HOwn w4 (w1.heap.size + 2) k n bs) (hbel : Below w1.heap.size w1 w4) (hs : s ∈ setsOf st')
    (hown : w5.ownsRow 0 29 1 (.slice (some ⟨w1.heap.size + 2, 0, none⟩) (k + 1) n) (k + 1) (bs.map P0 ++ [.pointer (some ⟨b, 0, none⟩)])) (hg : (w4.alloc o).grownBy w5 (some (w1.heap.size + 2))) :
    Cache w5 (w1.heap.size + 1) w1.heap.size (w1.heap.size + 3) st' ∧ HOwn w5 (w1.heap.size + 2) (k + 1) n (bs ++ [b]) ∧ Below w1.heap.size w1 w5 ∧ SetAt w5 (w1.heap.size + 3) s := by
  have hc5 : Cache w5 (w1.heap.size + 1) w1.heap.size (w1.heap.size + 3) st' := by
    refine hc.keep (by have := hg.size; simp at this; omega) (fun j hj h => ?_)
    rw [hg.block j (by simp; omega) (fun e => by have := Option.some.inj e; omega), Below.heap_alloc _ _ _ hj]
  refine ⟨hc5, ?_, ?_, hc5.blkOf hs⟩
  · unfold HOwn; rw [List.map_append]; exact hown
  · have hl4 := hc.lsz
    exact (hbel.alloc hbel.size o).grown hg (by simp; omega) (fun j hj => by have := Option.some.inj hj; omega)

set_option maxRecDepth 100000 in
set_option maxHeartbeats 4000000 in
theorem law3_any (a : Option Addr) (n cap : Nat) (ls : List (List Key)) (w : World) (Hn : Hid (ls.length = n)) (hr : LReads w a ls) (hmax : n ≤ 9223372036854775807) (h0 : a = none → n = 0) :
    Calls Try.prog 3 #[.slice a n cap] w fun e w' => e = .returned (.bool true) ∧ Below w.heap.size w w' := by
  have HR : Hid (LReads w a ls) := hr
  have H0 : Hid (a = none → n = 0) := h0
  clear hr h0
  go_enter Try.func3, Try.ntmps3
  go_wp2_with fail
  refine (bytes7_any a n cap ls w Hn HR.out hmax).mono ?_
  rintro e w' ⟨⟨r, rfl⟩, hww⟩
  subst w'
  cases r with
  | false =>
    go_wp2_with fail
    go_ret
    exact ⟨rfl, Below.refl _ _⟩
  | true =>
    go_wp2_with fail
    refine (listsFit_any a n cap 0 ls w Hn HR.out hmax (by omega) (by omega)).mono ?_
    rintro e w' ⟨⟨r, rfl, hfit⟩, hww⟩
    subst w'
    cases r with
    | false =>
      clear hfit
      go_wp2_with fail
      go_ret
      exact ⟨rfl, Below.refl _ _⟩
    | true =>
      obtain ⟨hn, hlens⟩ := hfit rfl
      have HLens : Hid (∀ l ∈ ls, l.length ≤ 65536) := hlens
      clear hfit hlens
      go_wp2_with fail
      refine (copyLists_any a n cap ls w Hn HR.out hn HLens.out H0.out).mono ?_
      rintro e w1 ⟨⟨a1, cap1, rfl, hlr, ha1⟩, hb1⟩
      have HL1 : Hid (LReads w1 a1 ls) := hlr
      have hmk := mk28cap n hn
      have hCN := cache_new w1
      clear hlr ha1
      go_wp2_with (first | (go_at_call 10; refine (newCache_any _).mono ?_; rintro e w2 ⟨rfl, hw2⟩; rw [← hw2] at hCN; have hb2 : Below w1.heap.size w1 w2 := (by rw [hw2]; exact below_alloc' (below_alloc' (Below.refl _ _) _) _); have hs2 : w2.heap.size = w1.heap.size + 2 := (by rw [hw2]; simp); clear hw2))
      have hC3 : Hid (Cache (w2.alloc (.cells (repl n (.pointer none)) 29)) (w1.heap.size + 1) w1.heap.size (w1.heap.size + 3) []) := cache_base (hCN.below (below_alloc' (Below.refl _ _) _)) (by omega) (by simp [hs2])
      have hH3 : Hid (HOwn (w2.alloc (.cells (repl n (.pointer none)) 29)) (w1.heap.size + 2) 0 n []) := by
        refine ⟨by simp, Or.inr ⟨_, n, _, rfl, Nat.zero_le _, by rw [← hs2]; exact heap_alloc_new w2 _, Nat.zero_le _, by unfold maxLen; omega, by simp [repl_size], by simp⟩⟩
      have hB3 : Hid (Below w1.heap.size w1 (w2.alloc (.cells (repl n (.pointer none)) 29))) := below_alloc' hb2 _
      clear hCN hb2 hs2 hmk
      go_loopw [4, 5] (fun hv i wr => ∃ (k : Nat) (bs : List Nat) (st : List Bucket), k ≤ n ∧ i = .int .i64 k ∧ hv = .slice (some ⟨w1.heap.size + 2, 0, none⟩) k n ∧ Cache wr (w1.heap.size + 1) w1.heap.size (w1.heap.size + 3) st ∧ Bal st bs ∧ Kv st bs ls ∧ (setsOf st).length ≤ k ∧ HOwn wr (w1.heap.size + 2) k n bs ∧ Below w1.heap.size w1 wr) (fun _ i _ => n - (intOf i).toNat)
      case atStart => exact ⟨0, [], [], Nat.zero_le _, rfl, rfl, hC3.out, bal_nil, kv_nil ls, by simp [setsOf], hH3.out, hB3.out⟩
      case round =>
        clear hC3 hH3 hB3
        obtain ⟨k, bs, st, hk, rfl, rfl, hc, hbal, hkv, hsl, hrow, hbel⟩ := hrel
        by_cases hlt : k < n
        · obtain ⟨g, off, ks, a', cap', rfl, hg, hl, hcell, hrd, _, _⟩ := (HL1.out.below hbel).at (k := k) (by rw [Hn.out]; exact hlt)
          have hg1 : g < w1.heap.size := by
            obtain ⟨g1, off1, _, _, _, hgo1, hg1, _⟩ := HL1.out.at (k := k) (by rw [Hn.out]; exact hlt)
            cases hgo1; exact hg1
          have hcell1 : ∀ w5 : World, Below w1.heap.size w1 w5 → w5.cell? ⟨g, off + k, none⟩ = some (.slice a' ks.length cap') := fun w5 hb5 => by
            rw [hb5.cell hg1, ← hbel.cell hg1]; exact hcell
          have hrd1 : ∀ w5 : World, Below w1.heap.size w1 w5 → Reads w5 a' ks := fun w5 hb5 => by
            obtain ⟨g1, off1, l1, a1', cap1', hgo1, _, hl1, hc1, hr1, _⟩ := HL1.out.at (k := k) (by rw [Hn.out]; exact hlt)
            cases hgo1
            rw [hl] at hl1; cases hl1
            have e1 : wr.cell? ⟨g, off + k, none⟩ = w1.cell? ⟨g, off + k, none⟩ := hbel.cell hg1
            rw [hcell, hc1] at e1
            cases e1
            exact hr1.below hb5
          have hbl := hrow.len
          have hll : ks.length ≤ 1048576 := by have := HLens.out ks (List.mem_of_getElem? hl); omega
          obtain ⟨W, hW⟩ := hkv.want hc ks
          have HZ := Hid.mk (fun q => zzhold_any _ _ _ st a' ks.length cap' ks (wr.drewN q) rfl (hrd.drewN q) hll (hc.drewN q) (hbal.bounds (N := k) (by omega) hsl (by omega)))
          rename World => wa
          have HC : Hid (Cache wa (w1.heap.size + 1) w1.heap.size (w1.heap.size + 3) st) := hc
          have HBal : Hid (Bal st bs) := hbal
          have HKv : Hid (Kv st bs ls) := hkv
          have HSl : Hid ((setsOf st).length ≤ k) := hsl
          have HRo : Hid (HOwn wa (w1.heap.size + 2) k n bs) := hrow
          have HBe : Hid (Below w1.heap.size w1 wa) := hbel
          have HKs : Hid (ls[k]? = some ks) := hl
          have HW : Hid (∀ j, j < bs.length → ls[j]? = some ks → bs[j]? = some W) := hW
          have HBl : Hid (bs.length = k) := hbl
          have HLR : Hid (LReads wa (some ⟨g, off, none⟩) ls) := HL1.out.below hbel
          have HRd : Hid (Reads wa a' ks) := hrd
          obtain ⟨mk, hmk⟩ : ∃ mk, mk = ks.length := ⟨_, rfl⟩
          rw [← hmk] at hcell HZ hll hcell1
          have HCl1 := Hid.mk hcell1
          have HRd1 := Hid.mk hrd1
          have HMk : Hid (ks.length = mk) := hmk.symm
          clear hcell1 hrd1 hc hbal hkv hsl hrow hbel hl hW hrd hmk hbl hg hg1
          go_wp2_with fail
          go_loopw [6, 7, 8] (fun wn nn j wx => ∃ jn m q : Nat, jn ≤ k ∧ 1 ≤ m ∧ m ≤ jn + 1 ∧ j = .int .i64 jn ∧ nn = .int .i64 m ∧ (ls.take jn).count ks + 1 = m ∧ ((m = 1 ∧ wn = .pointer none) ∨ (1 < m ∧ wn = .pointer (some ⟨W, 0, none⟩))) ∧ wx = wa.drewN q) (fun _ _ j _ => k - (intOf j).toNat)
          case atStart => exact ⟨0, 1, 0, Nat.zero_le _, Nat.le_refl _, by omega, rfl, rfl, by simp, Or.inl ⟨rfl, rfl⟩, rfl⟩
          case round =>
            obtain ⟨jn, m, q, hjk, hm1, hmj, rfl, rfl, hcnt, hwn, rfl⟩ := hrel
            have HCnt : Hid ((ls.take jn).count ks + 1 = m) := hcnt
            clear hcnt
            by_cases hjl : jn < k
            · obtain ⟨g2, off2, l, a2, cap2, hgo, _, hl2, hcell2, hrd2, _, _⟩ := HLR.out.at (k := jn) (by rw [Hn.out]; omega)
              cases hgo
              have hlb : l.length ≤ 1048576 := by have := HLens.out l (List.mem_of_getElem? hl2); omega
              have HE : Hid (∀ wx : World, wx.heap = wa.heap → Calls Try.prog 11 #[.slice a2 l.length cap2, .slice a' mk cap'] wx fun e w' => e = .returned (.bool (decide (l = ks))) ∧ ∃ n, w' = wx.drewN n) := fun wx hx =>
                equalKeys_any a2 a' l.length mk cap2 cap' l ks wx rfl HMk (hrd2.heap hx) (HRd.out.heap hx) hlb hll
              have HT := Hid.mk (take_count_step (ks := ks) hl2)
              have HL2 : Hid (ls[jn]? = some l) := hl2
              obtain ⟨ml, hml⟩ : ∃ ml, ml = l.length := ⟨_, rfl⟩
              rw [← hml] at hcell2 HE
              have hj0 : (0 : Int) ≤ (jn : Int) := by omega
              have hj1 : (jn : Int) < (n : Int) := by omega
              have hk0 : (0 : Int) ≤ (k : Int) := by omega
              have hk1 : (k : Int) < (n : Int) := by omega
              have hcw : bs[jn]? = some W → wa.cell? ⟨w1.heap.size + 2, jn, none⟩ = some (.pointer (some ⟨W, 0, none⟩)) := fun h => HRo.out.cell h
              obtain ⟨wb, hwb⟩ : ∃ wb, wb = wa.drewN q := ⟨_, rfl⟩
              have hcb : wb.cell? ⟨g, off + k, none⟩ = some (.slice a' mk cap') := by rw [hwb]; exact hcell
              have hcb2 : wb.cell? ⟨g, off + jn, none⟩ = some (.slice a2 ml cap2) := by rw [hwb]; exact hcell2
              have hcw2 : bs[jn]? = some W → wb.cell? ⟨w1.heap.size + 2, jn, none⟩ = some (.pointer (some ⟨W, 0, none⟩)) := fun h => by rw [hwb]; exact hcw h
              have hhp : Hid (wb.heap = wa.heap) := by rw [hwb]; exact rfl
              have HWB : Hid (wb = wa.drewN q) := hwb
              rw [← hwb]
              clear hrd2 hl2 hlb hml hwb hcell2
              by_cases hlk : l = ks
              · have HLK : Hid (l = ks) := hlk
                rw [decide_eq_true hlk] at HE
                have hwc := hcw2 (HW.out jn (by rw [HBl.out]; exact hjl) (by rw [HL2.out, hlk]))
                clear hlk hcw hcw2
                rcases hwn with ⟨hm, rfl⟩ | ⟨hm, rfl⟩
                · go_wp2_with fail
                  go_quiet ((go_at_call 11; exact Calls.quiet_of (HE.out _ (by exact hhp.out))))
                  go_wp2_with fail
                  go_roundw
                  case rel => exact ⟨jn + 1, m + 1, q + nq, by omega, by omega, by omega, by go_num, by go_num, by rw [HT.out, if_pos HLK.out]; have := HCnt.out; omega, Or.inr ⟨by omega, rfl⟩, by rw [HWB.out]; simp⟩
                  case measure => simp [intOf]; omega
                · go_wp2_with fail
                  go_quiet ((go_at_call 11; exact Calls.quiet_of (HE.out _ (by exact hhp.out))))
                  go_wp2_with fail
                  go_roundw
                  case rel => exact ⟨jn + 1, m + 1, q + nq, by omega, by omega, by omega, by go_num, by go_num, by rw [HT.out, if_pos HLK.out]; have := HCnt.out; omega, Or.inr ⟨by omega, rfl⟩, by rw [HWB.out]; simp⟩
                  case measure => simp [intOf]; omega
              · have HLK : Hid (¬ l = ks) := hlk
                rw [decide_eq_false hlk] at HE
                have HWN : Hid ((m = 1 ∧ u6 = .pointer none) ∨ (1 < m ∧ u6 = .pointer (some ⟨W, 0, none⟩))) := hwn
                clear hlk hcw hcw2 hwn
                go_wp2_with fail
                go_quiet ((go_at_call 11; exact Calls.quiet_of (HE.out _ (by exact hhp.out))))
                go_wp2_with fail
                go_roundw
                case rel => exact ⟨jn + 1, m, q + nq, by omega, by omega, by omega, by go_num, by go_num, by rw [HT.out, if_neg HLK.out]; exact HCnt.out, HWN.out, by rw [HWB.out]; simp⟩
                case measure => simp [intOf]; omega
            · have hje : jn = k := by omega
              have HCm : Hid ((ls.take bs.length).count ks = m - 1) := show (ls.take bs.length).count ks = m - 1 by
                have := HCnt.out
                rw [hje] at this
                rw [HBl.out]; omega
              have hjl' : ¬ (jn : Int) < (k : Int) := by omega
              obtain ⟨i0, hi0, hz0, hz1, hz2⟩ := info_parts Try.info29
              clear hje HCnt
              rcases hwn with ⟨hm, rfl⟩ | ⟨hm, rfl⟩
              · go_wp2_with (first | (go_at_call 12; refine (HZ.out _).mono ?_; rintro e w4 ⟨b, st', rfl, hc4, hh4, ho4⟩; obtain ⟨s, hsb, hsk, hsn, hsa, hbal4, hkv4, hsl4, hrow4, hbel4, hpr4, hcz4, hcb4, hin4⟩ := hold3_pack HC.out HBal.out HKv.out HSl.out HRo.out HBe.out HKs.out HCm.out hc4 hh4 ho4; have HC4 : Hid (Cache w4 (w1.heap.size + 1) w1.heap.size (w1.heap.size + 3) st') := hc4; have HRo4 : Hid (HOwn w4 (w1.heap.size + 2) k n bs) := hrow4; have HBe4 : Hid (Below w1.heap.size w1 w4) := hbel4; have HBal4 : Hid (Bal st' (bs ++ [b])) := hbal4; have HKv4 : Hid (Kv st' (bs ++ [b]) ls) := hkv4; have HSl4 : Hid ((setsOf st').length ≤ k + 1) := hsl4; have HSa4 : Hid (s ∈ setsOf st') := hsa; have HSb : Hid (s.b = b) := hsb; have HSk : Hid (s.keys = ks) := hsk; have HSn : Hid (s.n = ((m - 1 : Nat) : Int) + 1) := hsn; have HIn : Hid (inSt st' b = true) := hin4; have HPr4 : Hid (PReads w4 (some ⟨w1.heap.size + 2, 0, none⟩) bs) := hpr4; have HCz4 : Hid (m - 1 = 0 → bs.count b = 0) := hcz4; have HIb : Hid (IsBlk w4 b) := (by rw [← hsb]; exact (hc4.blkOf hsa).blk); have hgl4 := hrow4.lt; clear hc4 hh4 ho4 hrow4 hbel4 hbal4 hkv4 hsl4 hsa hsb hsk hsn hin4 hpr4 hcz4; clear hcb4) | (go_at_call 13; refine (countPtr_any (some ⟨w1.heap.size + 2, 0, none⟩) k n bs b w4 HBl HPr4.out HIb.out (by omega)).mono ?_; rintro e w4' ⟨rfl, hww⟩; subst w4'; rw [HCz4.out (by omega)]) | (at_builtin; refine wpList_append_fits _ rfl _ _ 28 rfl 0 29 i0 1 Try.underlying28 hi0 hz1 (w1.heap.size + 2) k n (bs.map P0) rfl (World.ownsRow.alloc HRo4.out _) ⟨w4.heap.size, 0, none⟩ 1 1 [.pointer (some ⟨b, 0, none⟩)] rfl rfl (cell_one_new _ _ _) (by simp [Value.oneCell']) (by omega) ?_; intro w5 hown5 hg5))
                obtain ⟨hc5, hrow5, hbel5, hs5⟩ := app3_pack HC4.out HRo4.out HBe4.out HSa4.out hown5 hg5
                clear hown5 hg5
                obtain ⟨aq, caps, sm, c0, c1, c2, c3, hsm, hrs, hblt, _⟩ := hs5.cells
                rw [HSb.out, HSk.out, HMk.out] at c0
                rw [HSb.out, HSn.out] at c2
                rw [HSb.out] at c3 hblt
                rw [HSk.out] at hrs
                have hcl5 := HCl1.out w5 hbel5
                have hrd5 := HRd1.out w5 hbel5
                have HK14 := Hid.mk (keys_any b aq mk caps ks w5.drew c0 (by exact hblt) HMk (by exact hrs) hll)
                have hHo : Hid (∀ (wx : World) (p : Nat), Below w5.heap.size w5 wx → Calls Try.prog 17 #[.pointer (some ⟨w1.heap.size + 1, 0, none⟩), .pointer (some ⟨b, 0, none⟩)] (wx.drewN p) fun e w' => e = .returned (.bool true) ∧ ∃ q, w' = (wx.drewN p).drewN q) := fun wx p hx => by
                  have hsx : SetAt wx (w1.heap.size + 3) s := hs5.below hx
                  have := zzheld_any _ _ _ st' (wx.drewN p) ((hc5.below hx).drewN p) s (hsx) (HBal4.out.bounds (N := k + 1) (by have := HBl.out; simp; omega) HSl4.out (by omega))
                  rw [HSb.out, HIn.out] at this
                  exact this
                have HR5 : Hid (Reads w5 aq ks) := hrs
                have HRd5 : Hid (Reads w5 a' ks) := hrd5
                have HC5 : Hid (Cache w5 (w1.heap.size + 1) w1.heap.size (w1.heap.size + 3) st') := hc5
                have HRo5 : Hid (HOwn w5 (w1.heap.size + 2) (k + 1) n (bs ++ [b])) := hrow5
                have HBe5 : Hid (Below w1.heap.size w1 w5) := hbel5
                have HSm : Hid (w5.heap[sm]? = some (.map #[] 0)) := hsm
                have hmne : (((m - 1 : Nat) : Int) + 1 != (m : Int)) = false := by simp; omega
                clear hrs hrd5 hc5 hrow5 hbel5 hs5 c1 hsm
                go_region_held3 (fun w' => w'.cell? ⟨g, off + k, none⟩ = some (.slice a' mk cap'))
                  (first | exact y6 | go_keep)
                  (first | (go_at_call 14; refine HK14.out.mono ?_; rintro e w6 ⟨a4, cap4, rfl, hown6, hb6⟩; have y6 := cell_later (w := w5) (wx := w6) ⟨hb6.os, hb6.tape, hb6.output, hb6.size, hb6.block⟩ hcl5) | (go_at_call 11; refine (equalKeys_any a4 a' mk mk cap4 cap' ks ks _ HMk HMk (reads_of_own hown6) (HRd5.out.below ⟨hb6.os, hb6.tape, hb6.output, hb6.size, hb6.block⟩) hll hll).mono ?_; rintro e w7 ⟨rfl, q7, hw7⟩; subst w7; rw [show decide (ks = ks) = true from decide_eq_true rfl]) | (go_at_call 15; refine (sums_any b sm _ (by exact cell_later (w := w5) (wx := w6) ⟨hb6.os, hb6.tape, hb6.output, hb6.size, hb6.block⟩ c3) (by exact (hb6.block sm (by exact lt_of_blk HSm.out)).trans HSm.out)).mono ?_; rintro e w8 ⟨rfl, hw8⟩; subst w8))
                have hB6 : Below w5.heap.size w5 w6 := ⟨hb6.os, hb6.tape, hb6.output, hb6.size, hb6.block⟩
                have c26 := cell_later hB6 c2
                clear hown6 hb6 y6 c0 c2 c3 hcl5
                go_wp2_with (first | (go_at_call 16; refine (holders_any _ _ _ (by exact c26)).mono ?_; rintro e w9 ⟨rfl, hw9⟩; subst w9) | (go_at_call 17; refine (hHo.out w6 _ hB6).mono ?_; rintro e w9 ⟨rfl, q9, hw9⟩; subst w9))
                go_roundw
                case rel =>
                  refine ⟨k + 1, bs ++ [b], st', by omega, by go_num, rfl, ?_, HBal4.out, HKv4.out, HSl4.out, ?_, ?_⟩
                  · exact (HC5.out.below hB6).keep (Nat.le_refl _) (fun _ _ _ => rfl)
                  · exact HRo5.out.keep (hB6.block _ HRo5.out.lt)
                  · exact (HBe5.out.trans (hB6.mono (by have := HC5.out.lsz; omega))).trans ⟨rfl, rfl, rfl, Nat.le_refl _, fun _ _ => rfl⟩
                case measure => simp [intOf]; omega
              · go_wp2_with (first | (go_at_call 12; refine (HZ.out _).mono ?_; rintro e w4 ⟨b, st', rfl, hc4, hh4, ho4⟩; obtain ⟨s, hsb, hsk, hsn, hsa, hbal4, hkv4, hsl4, hrow4, hbel4, hpr4, hcz4, hcb4, hin4⟩ := hold3_pack HC.out HBal.out HKv.out HSl.out HRo.out HBe.out HKs.out HCm.out hc4 hh4 ho4; have HC4 : Hid (Cache w4 (w1.heap.size + 1) w1.heap.size (w1.heap.size + 3) st') := hc4; have HRo4 : Hid (HOwn w4 (w1.heap.size + 2) k n bs) := hrow4; have HBe4 : Hid (Below w1.heap.size w1 w4) := hbel4; have HBal4 : Hid (Bal st' (bs ++ [b])) := hbal4; have HKv4 : Hid (Kv st' (bs ++ [b]) ls) := hkv4; have HSl4 : Hid ((setsOf st').length ≤ k + 1) := hsl4; have HSa4 : Hid (s ∈ setsOf st') := hsa; have HSb : Hid (s.b = b) := hsb; have HSk : Hid (s.keys = ks) := hsk; have HSn : Hid (s.n = ((m - 1 : Nat) : Int) + 1) := hsn; have HIn : Hid (inSt st' b = true) := hin4; have HPr4 : Hid (PReads w4 (some ⟨w1.heap.size + 2, 0, none⟩) bs) := hpr4; have HCz4 : Hid (m - 1 = 0 → bs.count b = 0) := hcz4; have HIb : Hid (IsBlk w4 b) := (by rw [← hsb]; exact (hc4.blkOf hsa).blk); have hgl4 := hrow4.lt; clear hc4 hh4 ho4 hrow4 hbel4 hbal4 hkv4 hsl4 hsa hsb hsk hsn hin4 hpr4 hcz4; have HWX : Hid (W = b) := (by obtain ⟨j, hj, e⟩ := count_pos_at (L := ls) (a := ks) (i := bs.length) (by rw [HCm.out]; omega); have h1 := HW.out j hj e; rw [hcb4 j hj e] at h1; exact (Option.some.inj h1).symm); have hpe : (binOp .neq 29 (.pointer (some ⟨b, 0, none⟩)) (.pointer (some ⟨W, 0, none⟩))).run Try.prog w4 = .ok (.bool false) w4 := (by rw [HWX.out, neqPtr HIb.out HIb.out]; simp); clear hcb4) | (at_builtin; refine wpList_append_fits _ rfl _ _ 28 rfl 0 29 i0 1 Try.underlying28 hi0 hz1 (w1.heap.size + 2) k n (bs.map P0) rfl (World.ownsRow.alloc HRo4.out _) ⟨w4.heap.size, 0, none⟩ 1 1 [.pointer (some ⟨b, 0, none⟩)] rfl rfl (cell_one_new _ _ _) (by simp [Value.oneCell']) (by omega) ?_; intro w5 hown5 hg5))
                obtain ⟨hc5, hrow5, hbel5, hs5⟩ := app3_pack HC4.out HRo4.out HBe4.out HSa4.out hown5 hg5
                clear hown5 hg5
                obtain ⟨aq, caps, sm, c0, c1, c2, c3, hsm, hrs, hblt, _⟩ := hs5.cells
                rw [HSb.out, HSk.out, HMk.out] at c0
                rw [HSb.out, HSn.out] at c2
                rw [HSb.out] at c3 hblt
                rw [HSk.out] at hrs
                have hcl5 := HCl1.out w5 hbel5
                have hrd5 := HRd1.out w5 hbel5
                have HK14 := Hid.mk (keys_any b aq mk caps ks w5.drew c0 (by exact hblt) HMk (by exact hrs) hll)
                have hHo : Hid (∀ (wx : World) (p : Nat), Below w5.heap.size w5 wx → Calls Try.prog 17 #[.pointer (some ⟨w1.heap.size + 1, 0, none⟩), .pointer (some ⟨b, 0, none⟩)] (wx.drewN p) fun e w' => e = .returned (.bool true) ∧ ∃ q, w' = (wx.drewN p).drewN q) := fun wx p hx => by
                  have hsx : SetAt wx (w1.heap.size + 3) s := hs5.below hx
                  have := zzheld_any _ _ _ st' (wx.drewN p) ((hc5.below hx).drewN p) s (hsx) (HBal4.out.bounds (N := k + 1) (by have := HBl.out; simp; omega) HSl4.out (by omega))
                  rw [HSb.out, HIn.out] at this
                  exact this
                have HR5 : Hid (Reads w5 aq ks) := hrs
                have HRd5 : Hid (Reads w5 a' ks) := hrd5
                have HC5 : Hid (Cache w5 (w1.heap.size + 1) w1.heap.size (w1.heap.size + 3) st') := hc5
                have HRo5 : Hid (HOwn w5 (w1.heap.size + 2) (k + 1) n (bs ++ [b])) := hrow5
                have HBe5 : Hid (Below w1.heap.size w1 w5) := hbel5
                have HSm : Hid (w5.heap[sm]? = some (.map #[] 0)) := hsm
                have hmne : (((m - 1 : Nat) : Int) + 1 != (m : Int)) = false := by simp; omega
                clear hrs hrd5 hc5 hrow5 hbel5 hs5 c1 hsm
                go_region_held3 (fun w' => w'.cell? ⟨g, off + k, none⟩ = some (.slice a' mk cap'))
                  (first | exact y6 | go_keep)
                  (first | (go_at_call 14; refine HK14.out.mono ?_; rintro e w6 ⟨a4, cap4, rfl, hown6, hb6⟩; have y6 := cell_later (w := w5) (wx := w6) ⟨hb6.os, hb6.tape, hb6.output, hb6.size, hb6.block⟩ hcl5) | (go_at_call 11; refine (equalKeys_any a4 a' mk mk cap4 cap' ks ks _ HMk HMk (reads_of_own hown6) (HRd5.out.below ⟨hb6.os, hb6.tape, hb6.output, hb6.size, hb6.block⟩) hll hll).mono ?_; rintro e w7 ⟨rfl, q7, hw7⟩; subst w7; rw [show decide (ks = ks) = true from decide_eq_true rfl]) | (go_at_call 15; refine (sums_any b sm _ (by exact cell_later (w := w5) (wx := w6) ⟨hb6.os, hb6.tape, hb6.output, hb6.size, hb6.block⟩ c3) (by exact (hb6.block sm (by exact lt_of_blk HSm.out)).trans HSm.out)).mono ?_; rintro e w8 ⟨rfl, hw8⟩; subst w8))
                have hB6 : Below w5.heap.size w5 w6 := ⟨hb6.os, hb6.tape, hb6.output, hb6.size, hb6.block⟩
                have c26 := cell_later hB6 c2
                clear hown6 hb6 y6 c0 c2 c3 hcl5
                go_wp2_with (first | (go_at_call 16; refine (holders_any _ _ _ (by exact c26)).mono ?_; rintro e w9 ⟨rfl, hw9⟩; subst w9) | (go_at_call 17; refine (hHo.out w6 _ hB6).mono ?_; rintro e w9 ⟨rfl, q9, hw9⟩; subst w9))
                go_roundw
                case rel =>
                  refine ⟨k + 1, bs ++ [b], st', by omega, by go_num, rfl, ?_, HBal4.out, HKv4.out, HSl4.out, ?_, ?_⟩
                  · exact (HC5.out.below hB6).keep (Nat.le_refl _) (fun _ _ _ => rfl)
                  · exact HRo5.out.keep (hB6.block _ HRo5.out.lt)
                  · exact (HBe5.out.trans (hB6.mono (by have := HC5.out.lsz; omega))).trans ⟨rfl, rfl, rfl, Nat.le_refl _, fun _ _ => rfl⟩
                case measure => simp [intOf]; omega
        · have hkn : k = n := by omega
          subst hkn
          have HSh := Hid.mk (shape_any _ _ _ st wr hc (some ⟨w1.heap.size + 2, 0, none⟩) k k bs hrow.len (hrow.preads hc hbal) hbal hn (hbal.bounds (N := k) (by have := hrow.len; omega) hsl (by omega)))
          clear hc hbal hkv hsl hrow
          go_wp2_with (first | (go_at_call 18; refine HSh.out.mono ?_; rintro e w9 ⟨rfl, q9, hw9⟩; subst w9))
          go_ret
          exact ⟨rfl, (hb1.trans (hbel.mono hb1.size)).trans ⟨rfl, rfl, rfl, Nat.le_refl _, fun _ _ => rfl⟩⟩

end Go.Proofs.Qxb6604108a
