import Derived.Test.Qxb6604108aF4
namespace Go.Proofs.Qxb6604108a
open Go.RowKit
set_option linter.unusedVariables false
set_option linter.unusedSimpArgs false

set_option maxRecDepth 100000 in
set_option maxHeartbeats 4000000 in
theorem law5_any (a : Option Addr) (nl cap : Nat) (ls : List (List Key)) (a2 : Option Addr) (n cap2 : Nat) (ss : List Int) (w : World) (Hn : Hid (ls.length = nl)) (hr : LReads w a ls) (hmax : nl ≤ 9223372036854775807) (h0 : a = none → nl = 0)
    (Hs : Hid (ss.length = n)) (hi : IReads w a2 ss) (hmax2 : n ≤ 9223372036854775807) (h02 : a2 = none → n = 0) :
    Calls Try.prog 5 #[.slice a nl cap, .slice a2 n cap2] w fun e w' => e = .returned (.bool true) ∧ Below w.heap.size w w' := by
  have HR : Hid (LReads w a ls) := hr
  have H0 : Hid (a = none → nl = 0) := h0
  have HI : Hid (IReads w a2 ss) := hi
  have H02 : Hid (a2 = none → n = 0) := h02
  clear hr h0 hi h02
  go_enter Try.func5, Try.ntmps5
  go_wp2_with fail
  refine (bytes24_any a nl cap ls a2 n cap2 w Hn HR.out hmax hmax2).mono ?_
  rintro e w' ⟨⟨r, rfl⟩, hww⟩
  subst w'
  cases r with
  | false =>
    go_wp2_with fail
    go_ret
    exact ⟨rfl, Below.refl _ _⟩
  | true =>
    by_cases hn : n ≤ 4096
    · have hn' : ¬ (4096 : Int) < (n : Int) := by omega
      go_wp2_with fail
      refine (listsFit_any a nl cap (4 * (n : Int)) ls w Hn HR.out hmax (by omega) (by omega)).mono ?_
      rintro e w' ⟨⟨r, rfl, hfit⟩, hww⟩
      subst w'
      cases r with
      | false =>
        clear hfit
        go_wp2_with fail
        go_ret
        exact ⟨rfl, Below.refl _ _⟩
      | true =>
        obtain ⟨hnl, hlens⟩ := hfit rfl
        have HLens : Hid (∀ l ∈ ls, l.length ≤ 65536) := hlens
        clear hfit hlens
        go_wp2_with fail
        go_loop [5] (fun i => ∃ k : Nat, k ≤ n ∧ i = .int .i64 k ∧ ∀ (j : Nat) (s : Int), j < k → ss[j]? = some s → 0 ≤ s → s < nl) (fun i => n - (intOf i).toNat)
        case atStart => exact ⟨0, Nat.zero_le _, rfl, fun j s h => by omega⟩
        case round =>
          obtain ⟨k, hk, rfl, hok⟩ := hrel
          have HOk : Hid (∀ (j : Nat) (s : Int), j < k → ss[j]? = some s → 0 ≤ s → s < nl) := hok
          clear hok
          by_cases hlt : k < n
          · obtain ⟨g, off, s, rfl, hg, hs, hcell, hs1, hs2⟩ := HI.out.at (k := k) (by rw [Hs.out]; exact hlt)
            have HS : Hid (ss[k]? = some s) := hs
            clear hs
            by_cases hs0 : 0 ≤ s
            · by_cases hs3 : (nl : Int) ≤ s
              · have hwr : IntKind.i64.wrap s = s := by simp [IntKind.wrap, IntKind.bits, IntKind.signed]; omega
                go_wp2_with fail
                go_ret
                exact ⟨rfl, Below.refl _ _⟩
              · have hwr : IntKind.i64.wrap s = s := by simp [IntKind.wrap, IntKind.bits, IntKind.signed]; omega
                go_wp2_with fail
                go_round
                case rel =>
                  refine ⟨k + 1, by omega, by go_num, fun j s' hj hs' _ => ?_⟩
                  rcases Nat.lt_succ_iff_lt_or_eq.1 hj with h | rfl
                  · exact HOk.out j s' h hs' (by assumption)
                  · rw [HS.out] at hs'; cases hs'; omega
                case measure => simp [intOf]; omega
            · go_wp2_with fail
              go_round
              case rel =>
                refine ⟨k + 1, by omega, by go_num, fun j s' hj hs' _ => ?_⟩
                rcases Nat.lt_succ_iff_lt_or_eq.1 hj with h | rfl
                · exact HOk.out j s' h hs' (by assumption)
                · rw [HS.out] at hs'; cases hs'; omega
              case measure => simp [intOf]; omega
          · have hkn : k = n := by omega
            subst hkn
            go_wp2_with fail
            refine (copyLists_any a nl cap ls w Hn HR.out hnl HLens.out H0.out).mono ?_
            rintro e w1 ⟨⟨a1, cap1, rfl, hlr, ha1⟩, hb1⟩
            have HL1 : Hid (LReads w1 a1 ls) := hlr
            clear hlr ha1
            go_wp2_with fail
            refine (copyI32_any a2 k cap2 ss w1 Hs (HI.out.below hb1) hn H02.out).mono ?_
            rintro e w2 ⟨⟨a3, cap3, rfl, hir⟩, hb2⟩
            have HI2 : Hid (IReads w2 a3 ss) := hir
            have HL2 : Hid (LReads w2 a1 ls) := HL1.out.below hb2
            have hmkH := mk28cap k hn
            have hmkF := mk48cap k hn
            have hCN := cache_new w2
            clear hir HL1
            go_wp2_with (first | (go_at_call 10; refine (newCache_any _).mono ?_; rintro e w3 ⟨rfl, hw3⟩; rw [← hw3] at hCN; have hb3 : Below w2.heap.size w2 w3 := (by rw [hw3]; exact below_alloc' (below_alloc' (Below.refl _ _) _) _); have hs3 : w3.heap.size = w2.heap.size + 2 := (by rw [hw3]; simp); clear hw3))
            have HM0 : Hid (Mem w2 (((w3.alloc (.cells (repl k (.pointer none)) 29)).alloc (.cells (repl k (.int .i64 0)) 3)).alloc (.cells (repl k (.pointer none)) 29)) k [] [] [] []) := by
              have e2 : w2.heap.size + 2 < (w3.alloc (.cells (repl k (.pointer none)) 29)).heap.size := by simp; omega
              have e3 : w2.heap.size + 3 < ((w3.alloc (.cells (repl k (.pointer none)) 29)).alloc (.cells (repl k (.int .i64 0)) 3)).heap.size := by simp; omega
              have n3 : w2.heap.size + 3 = (w3.alloc (.cells (repl k (.pointer none)) 29)).heap.size := by simp; omega
              have n4 : w2.heap.size + 4 = ((w3.alloc (.cells (repl k (.pointer none)) 29)).alloc (.cells (repl k (.int .i64 0)) 3)).heap.size := by simp; omega
              refine ⟨cache_base (hCN.below (below_alloc' (below_alloc' (below_alloc' (Below.refl _ _) _) _) _)) (by omega) (by simp; omega), ROwn.start hn (v := .pointer none) ?_, ROwn.start hn (v := .int .i64 0) ?_, ROwn.start hn (v := .pointer none) ?_, by simp, below_alloc' (below_alloc' (below_alloc' hb3 _) _) _⟩
              · rw [Below.heap_alloc _ _ _ (by simp; omega), Below.heap_alloc _ _ _ e2, ← hs3]; exact heap_alloc_new w3 _
              · rw [Below.heap_alloc _ _ _ e3, n3]; exact heap_alloc_new _ _
              · rw [n4]; exact heap_alloc_new _ _
            clear hCN hb3 hs3 hmkH hmkF
            go_loopw [7, 8, 9, 10] (fun hv fv xv i wr => ∃ (t kh ke : Nat) (Hl Fl El : List Nat) (Kl : List (List Key)) (st : List Bucket), t ≤ k ∧ Hl.length = kh ∧ El.length = ke ∧ i = .int .i64 t ∧ hv = .slice (some ⟨w2.heap.size + 2, 0, none⟩) kh k ∧ fv = .slice (some ⟨w2.heap.size + 3, 0, none⟩) kh k ∧ xv = .slice (some ⟨w2.heap.size + 4, 0, none⟩) ke k ∧ Mem w2 wr k st Hl Fl El ∧ Lg t ls st Hl Fl El Kl) (fun _ _ _ i _ => k - (intOf i).toNat)
            case atStart => exact ⟨0, 0, 0, [], [], [], [], [], Nat.zero_le _, rfl, rfl, rfl, rfl, rfl, rfl, HM0.out, lg_nil ls⟩
            case round =>
              clear HM0
              obtain ⟨t, kh, ke, Hl, Fl, El, Kl, st, htk, hlh, hle, rfl, rfl, rfl, rfl, hm, hlg⟩ := hrel
              have HM : Hid (Mem w2 wr k st Hl Fl El) := hm
              have HLg : Hid (Lg t ls st Hl Fl El Kl) := hlg
              have HLh : Hid (Hl.length = kh) := hlh
              have HLe : Hid (El.length = ke) := hle
              have hkt : kh ≤ t := by have := hlg.lenH; omega
              have hket : ke ≤ t := by have := hlg.lenE; omega
              clear hm hlg hlh hle
              by_cases hlt : t < k
              · obtain ⟨g, off, s, rfl, hg, hs, hcell, hs1, hs2⟩ := (HI2.out.below HM.out.bel).at (k := t) (by rw [Hs.out]; exact hlt)
                by_cases hs0 : 0 ≤ s
                · obtain ⟨li, rfl⟩ : ∃ li : Nat, s = (li : Nat) := ⟨s.toNat, by omega⟩
                  have hlil : li < nl := by have := HOk.out t _ hlt hs hs0; omega
                  have hwr : IntKind.i64.wrap (li : Int) = (li : Int) := by simp [IntKind.wrap, IntKind.bits, IntKind.signed]; omega
                  obtain ⟨gl, offl, ks, a', cap', rfl, hgl, hl, hcell2, hrd2, _, _⟩ := HL2.out.at (k := li) (by rw [Hn.out]; exact hlil)
                  have hll : ks.length ≤ 1048576 := by have := HLens.out ks (List.mem_of_getElem? hl); omega
                  have HRd2 : Hid (Reads w2 a' ks) := hrd2
                  have HKs : Hid (ls[li]? = some ks) := hl
                  obtain ⟨mk, hmk⟩ : ∃ mk, mk = ks.length := ⟨_, rfl⟩
                  have HMk : Hid (ks.length = mk) := hmk.symm
                  rw [← hmk] at hcell2 hll
                  have HCl1 : Hid (∀ w5 : World, Below w2.heap.size w2 w5 → w5.cell? ⟨gl, offl + li, none⟩ = some (.slice a' mk cap')) := fun w5 hb5 => (hb5.cell hgl).trans hcell2
                  have hcl : wr.cell? ⟨gl, offl + li, none⟩ = some (.slice a' mk cap') := HCl1.out wr HM.out.bel
                  have HZ := Hid.mk (fun q => zzhold_any _ _ _ st a' mk cap' ks (wr.drewN q) HMk (HRd2.out.below (HM.out.drewN q).bel) hll (HM.out.drewN q).cache (HLg.out.bounds (by omega)))
                  clear hs hg hl hrd2 hmk hcell2 hgl
                  go_wp2_with fail
                  clear hcell hwr
                  rename World => wa
                  go_loopw [13, 14] (fun wn jv wx => ∃ jn q : Nat, jn ≤ kh ∧ jv = .int .i64 jn ∧ wn = .pointer none ∧ (∀ p, p < jn → Kl[p]? ≠ some ks) ∧ wx = wa.drewN q) (fun _ jv _ => kh - (intOf jv).toNat)
                  case atStart => exact ⟨0, 0, Nat.zero_le _, rfl, rfl, fun p hp => by omega, rfl⟩
                  case round =>
                    obtain ⟨jn, q, hjk, rfl, rfl, hno, rfl⟩ := hrel
                    have HNo : Hid (∀ p, p < jn → Kl[p]? ≠ some ks) := hno
                    obtain ⟨i0, hi0, hz0, hz1, hz2⟩ := info_parts Try.info29
                    obtain ⟨i3, hi3, hy0, hy1, hy2⟩ := info_parts Try.info3
                    clear hno
                    by_cases hjl : jn < kh
                    · obtain ⟨lj, bj, l, hfj, hhj, hlj, hkj, hljl⟩ := HLg.out.search (j := jn) (by rw [HLh.out]; exact hjl)
                      rw [Hn.out] at hljl
                      obtain ⟨g3, off3, l', a4, cap4, hgo, hg3, hl3, hcell3, hrd3, _, _⟩ := HL2.out.at (k := lj) (by rw [Hn.out]; exact hljl)
                      cases hgo
                      rw [hlj] at hl3; cases hl3
                      have hlb : l.length ≤ 1048576 := by have := HLens.out l (List.mem_of_getElem? hlj); omega
                      obtain ⟨wb, hwb⟩ : ∃ wb, wb = wa.drewN q := ⟨_, rfl⟩
                      have HBb : Hid (Below w2.heap.size w2 wb) := by rw [hwb]; exact (HM.out.drewN q).bel
                      have HE : Hid (∀ wx : World, wx.heap = wb.heap → Calls Try.prog 11 #[.slice a4 l.length cap4, .slice a' mk cap'] wx fun e w' => e = .returned (.bool (decide (l = ks))) ∧ ∃ n, w' = wx.drewN n) := fun wx hx =>
                        equalKeys_any a4 a' l.length mk cap4 cap' l ks wx rfl HMk ((hrd3.below HBb.out).heap hx) ((HRd2.out.below HBb.out).heap hx) hlb hll
                      obtain ⟨ml, hml⟩ : ∃ ml, ml = l.length := ⟨_, rfl⟩
                      have hcb2 : wb.cell? ⟨gl, offl + lj, none⟩ = some (.slice a4 ml cap4) := by rw [hml]; exact (HBb.out.cell hg3).trans hcell3
                      have hcb : wb.cell? ⟨gl, offl + li, none⟩ = some (.slice a' mk cap') := HCl1.out wb HBb.out
                      have hcf : wb.cell? ⟨w2.heap.size + 3, jn, none⟩ = some (.int .i64 (lj : Nat)) := by rw [hwb]; exact HM.out.rowF.cell hfj
                      have hch : wb.cell? ⟨w2.heap.size + 2, jn, none⟩ = some (.pointer (some ⟨bj, 0, none⟩)) := by rw [hwb]; exact HM.out.rowH.cell hhj
                      rw [← hml] at HE
                      have HWB : Hid (wb = wa.drewN q) := hwb
                      have HHj : Hid (Hl[jn]? = some bj) := hhj
                      have HKj : Hid (Kl[jn]? = some l) := hkj
                      have hj0 : (0 : Int) ≤ (jn : Int) := by omega
                      have hj1 : (jn : Int) < (kh : Int) := by omega
                      have hlj0 : (0 : Int) ≤ (lj : Int) := by omega
                      have hlj1 : (lj : Int) < (nl : Int) := by omega
                      have hli0 : (0 : Int) ≤ (li : Int) := by omega
                      have hli1 : (li : Int) < (nl : Int) := by omega
                      rw [← hwb]
                      clear hrd3 hlj hlb hml hwb hcell3 hfj hhj hkj hg3
                      have HMb : Hid (Mem w2 wb k st Hl Fl El) := by rw [HWB.out]; exact HM.out.drewN q
                      have HZb := Hid.mk (fun q => zzhold_any _ _ _ st a' mk cap' ks (wb.drewN q) HMk (HRd2.out.below (HMb.out.drewN q).bel) hll (HMb.out.drewN q).cache (HLg.out.bounds (by omega)))
                      by_cases hlk : l = ks
                      · rw [decide_eq_true hlk] at HE
                        rw [hlk] at HKj
                        clear hlk
                        go_wp2_with fail
                        go_quiet ((go_at_call 11; exact Calls.quiet_of (HE.out _ (by exact rfl))))
                        go_wp2_with (first | (go_at_call 12; refine (HZb.out _).mono ?_; rintro e w4 ⟨b, st', rfl, hc4, hh4, ho4⟩; obtain ⟨s5, hsb, hsk, hsa, hm4, hlg4, hw4, hz4, hb4, his4⟩ := hold5_pack HMb.out HLg.out HKs.out hc4 hh4 ho4; have HM4 : Hid (Mem w2 w4 k st' Hl Fl El) := hm4; have HLg4 : Hid (Lg (t + 1) ls st' (Hl ++ [b]) (Fl ++ [li]) (El ++ [b]) (Kl ++ [ks])) := hlg4; have HSa : Hid (s5 ∈ setsOf st') := hsa; have HSb : Hid (s5.b = b) := hsb; have HSk : Hid (s5.keys = ks) := hsk; have HBj : Hid (bj = b) := (by have h1 := hw4 jn (by rw [HLh.out]; exact hjl) HKj.out; rw [HHj.out] at h1; exact Option.some.inj h1); have HIb : Hid (IsBlk w4 b) := his4.blk; have hpe : (binOp .neq 29 (.pointer (some ⟨b, 0, none⟩)) (.pointer (some ⟨bj, 0, none⟩))).run Try.prog w4 = .ok (.bool false) w4 := (by rw [HBj.out, neqPtr HIb.out HIb.out]; simp); have hgl4 := hm4.rowH.lt; clear hc4 hh4 ho4 hm4 hlg4 hsa hsb hsk hw4 hz4 hb4 his4) | (at_builtin; refine wpList_append_fits _ rfl _ _ 28 rfl 0 29 i0 1 Try.underlying28 hi0 hz1 (w2.heap.size + 2) kh k (Hl.map P0) rfl (World.ownsRow.alloc (HM4.out.rowH.ownk HLh.out) _) ⟨w4.heap.size, 0, none⟩ 1 1 [.pointer (some ⟨b, 0, none⟩)] rfl rfl (cell_one_new _ _ _) (by simp [Value.oneCell']) (by omega) ?_; intro w5 hown5 hg5; have HM5 : Hid (Mem w2 w5 k st' (Hl ++ [b]) Fl El) := HM4.out.pushH HLh.out hg5 hown5; have hgl5 := HM5.out.rowF.lt; clear hown5 hg5 hgl4) | (at_builtin; refine wpList_append_fits _ rfl _ _ 48 rfl 0 3 i3 1 Try.underlying48 hi3 hy1 (w2.heap.size + 3) kh k (Fl.map I0) rfl (World.ownsRow.alloc (HM5.out.rowF.ownk (HLg.out.lenF.trans HLh.out)) _) ⟨w5.heap.size, 0, none⟩ 1 1 [.int .i64 (li : Int)] rfl rfl (cell_one_new _ _ _) (by simp [Value.oneCell']) (by omega) ?_; intro w6 hown6 hg6; have HM6 : Hid (Mem w2 w6 k st' (Hl ++ [b]) (Fl ++ [li]) El) := HM5.out.pushF (HLg.out.lenF.trans HLh.out) hg6 hown6; have hgl6 := HM6.out.rowE.lt; clear hown6 hg6 hgl5) | (at_builtin; refine wpList_append_fits _ rfl _ _ 28 rfl 0 29 i0 1 Try.underlying28 hi0 hz1 (w2.heap.size + 4) ke k (El.map P0) rfl (World.ownsRow.alloc (HM6.out.rowE.ownk HLe.out) _) ⟨w6.heap.size, 0, none⟩ 1 1 [.pointer (some ⟨b, 0, none⟩)] rfl rfl (cell_one_new _ _ _) (by simp [Value.oneCell']) (by omega) ?_; intro w7 hown7 hg7; have HM7 : Hid (Mem w2 w7 k st' (Hl ++ [b]) (Fl ++ [li]) (El ++ [b])) := HM6.out.pushE HLe.out hg7 (by rw [← HSb.out]; exact (HM6.out.cache.blkOf HSa.out).isSet) hown7; clear hown7 hg7 hgl6))
                        have hs7 := HM7.out.cache.blkOf HSa.out
                        obtain ⟨aq, caps, sm, c0, c1, c2, c3, hsm, hrs, hblt, _⟩ := hs7.cells
                        rw [HSb.out, HSk.out, HMk.out] at c0
                        rw [HSb.out] at c3 hblt
                        rw [HSk.out] at hrs
                        have hcl7 := HCl1.out w7 HM7.out.bel
                        have HK14 := Hid.mk (keys_any b aq mk caps ks w7.drew c0 (by exact hblt) HMk (by exact hrs) hll)
                        have HR7 : Hid (Reads w7 aq ks) := hrs
                        have HRd7 : Hid (Reads w7 a' ks) := HRd2.out.below HM7.out.bel
                        have HSm : Hid (w7.heap[sm]? = some (.map #[] 0)) := hsm
                        have hli0 : (0 : Int) ≤ (li : Int) := by omega
                        have hli1 : (li : Int) < (nl : Int) := by omega
                        clear hrs hs7 c1 c2 hsm
                        go_region_held3 (fun w' => w'.cell? ⟨gl, offl + li, none⟩ = some (.slice a' mk cap'))
                          (first | exact y6 | go_keep)
                          (first | (go_at_call 14; refine HK14.out.mono ?_; rintro e w8 ⟨a5, cap5, rfl, hown8, hb8⟩; have y6 := cell_later (w := w7) (wx := w8) ⟨hb8.os, hb8.tape, hb8.output, hb8.size, hb8.block⟩ hcl7) | (go_at_call 11; refine (equalKeys_any a5 a' mk mk cap5 cap' ks ks _ HMk HMk (reads_of_own hown8) (HRd7.out.below ⟨hb8.os, hb8.tape, hb8.output, hb8.size, hb8.block⟩) hll hll).mono ?_; rintro e w9 ⟨rfl, q7, hw9⟩; subst w9; rw [show decide (ks = ks) = true from decide_eq_true rfl]) | (go_at_call 15; refine (sums_any b sm _ (by exact cell_later (w := w7) (wx := w8) ⟨hb8.os, hb8.tape, hb8.output, hb8.size, hb8.block⟩ c3) (by exact (hb8.block sm (by exact lt_of_blk HSm.out)).trans HSm.out)).mono ?_; rintro e w9 ⟨rfl, hw9⟩; subst w9))
                        have hB8 : Below w7.heap.size w7 w8 := ⟨hb8.os, hb8.tape, hb8.output, hb8.size, hb8.block⟩
                        have HM8 : Hid (Mem w2 w8 k st' (Hl ++ [b]) (Fl ++ [li]) (El ++ [b])) := HM7.out.below hB8
                        have HA := Hid.mk (HLg4.out.bal.answers HM8.out.cache (HLg4.out.bounds (by omega)) b (by simp))
                        have HP13 : Hid (∀ wx : World, wx.heap = w8.heap → Calls Try.prog 13 #[.slice (some ⟨w2.heap.size + 2, 0, none⟩) (kh + 1) k, .pointer (some ⟨b, 0, none⟩)] wx fun e w' => e = .returned (.int .i64 ((Hl ++ [b]).count b : Nat)) ∧ w' = wx) := fun wx hx =>
                          countPtr_any _ _ _ (Hl ++ [b]) b wx (show (Hl ++ [b]).length = kh + 1 by simp [HLh.out]) ((HM8.out.preadsH HLg4.out.bal).heap hx) (by have := (HM8.out.cache.blkOf HSa.out).blk; rw [HSb.out] at this; unfold IsBlk at *; rw [hx]; exact this) (by omega)
                        obtain ⟨cn, hcn⟩ : ∃ cn, (Hl ++ [b]).count b = cn := ⟨_, rfl⟩
                        rw [hcn] at HA HP13
                        have hne : (((cn : Nat) : Int) != (cn : Int)) = false := by simp
                        clear hown8 hb8 y6 c0 c3 hcl7 hcn
                        go_wp2_with (first | (go_at_call 16; refine (HA.out.1 _ (by exact rfl)).mono ?_; rintro e w9 ⟨rfl, hw9⟩; subst w9) | (go_at_call 13; refine (HP13.out _ (by exact rfl)).mono ?_; rintro e w9 ⟨rfl, hw9⟩; subst w9) | (go_at_call 17; refine (HA.out.2 _ (by exact rfl)).mono ?_; rintro e w9 ⟨rfl, q9, hw9⟩; subst w9))
                        go_roundw
                        case rel => exact ⟨t + 1, kh + 1, ke + 1, Hl ++ [b], Fl ++ [li], El ++ [b], Kl ++ [ks], st', by omega, by simp [HLh.out], by simp [HLe.out], by go_num, rfl, rfl, rfl, HM8.out.below ⟨rfl, rfl, rfl, Nat.le_refl _, fun _ _ => rfl⟩, HLg4.out⟩
                        case measure => simp [intOf]; omega
                      · have HLK : Hid (¬ l = ks) := hlk
                        rw [decide_eq_false hlk] at HE
                        clear hlk
                        go_wp2_with fail
                        go_quiet ((go_at_call 11; exact Calls.quiet_of (HE.out _ (by exact rfl))))
                        go_wp2_with fail
                        go_roundw
                        case rel =>
                          refine ⟨jn + 1, q + nq, by omega, by go_num, rfl, fun p hp => ?_, by rw [HWB.out]; simp⟩
                          rcases Nat.lt_succ_iff_lt_or_eq.1 hp with h | rfl
                          · exact HNo.out p h
                          · rw [HKj.out]; exact fun e => HLK.out (Option.some.inj e)
                        case measure => simp [intOf]; omega
                    · have hje : jn = kh := by omega
                      have hjl' : ¬ (jn : Int) < (kh : Int) := by omega
                      go_wp2_with (first | (go_at_call 12; refine (HZ.out _).mono ?_; rintro e w4 ⟨b, st', rfl, hc4, hh4, ho4⟩; obtain ⟨s5, hsb, hsk, hsa, hm4, hlg4, hw4, hz4, hb4, his4⟩ := hold5_pack HM.out HLg.out HKs.out hc4 hh4 ho4; have HM4 : Hid (Mem w2 w4 k st' Hl Fl El) := hm4; have HLg4 : Hid (Lg (t + 1) ls st' (Hl ++ [b]) (Fl ++ [li]) (El ++ [b]) (Kl ++ [ks])) := hlg4; have HSa : Hid (s5 ∈ setsOf st') := hsa; have HSb : Hid (s5.b = b) := hsb; have HSk : Hid (s5.keys = ks) := hsk; have HCz : Hid (El.count b = 0) := hz4 (fun p hp => HNo.out p (by have := HLh.out; omega)); have HIb : Hid (IsBlk w4 b) := his4.blk; have hgl4 := hm4.rowH.lt; clear hc4 hh4 ho4 hm4 hlg4 hsa hsb hsk hw4 hz4 hb4 his4) | (go_at_call 13; refine (countPtr_any (some ⟨w2.heap.size + 4, 0, none⟩) ke k El b w4 HLe HM4.out.preadsE HIb.out (by omega)).mono ?_; rintro e w9 ⟨rfl, hw9⟩; subst w9; rw [HCz.out]) | (at_builtin; refine wpList_append_fits _ rfl _ _ 28 rfl 0 29 i0 1 Try.underlying28 hi0 hz1 (w2.heap.size + 2) kh k (Hl.map P0) rfl (World.ownsRow.alloc (HM4.out.rowH.ownk HLh.out) _) ⟨w4.heap.size, 0, none⟩ 1 1 [.pointer (some ⟨b, 0, none⟩)] rfl rfl (cell_one_new _ _ _) (by simp [Value.oneCell']) (by omega) ?_; intro w5 hown5 hg5; have HM5 : Hid (Mem w2 w5 k st' (Hl ++ [b]) Fl El) := HM4.out.pushH HLh.out hg5 hown5; have hgl5 := HM5.out.rowF.lt; clear hown5 hg5 hgl4) | (at_builtin; refine wpList_append_fits _ rfl _ _ 48 rfl 0 3 i3 1 Try.underlying48 hi3 hy1 (w2.heap.size + 3) kh k (Fl.map I0) rfl (World.ownsRow.alloc (HM5.out.rowF.ownk (HLg.out.lenF.trans HLh.out)) _) ⟨w5.heap.size, 0, none⟩ 1 1 [.int .i64 (li : Int)] rfl rfl (cell_one_new _ _ _) (by simp [Value.oneCell']) (by omega) ?_; intro w6 hown6 hg6; have HM6 : Hid (Mem w2 w6 k st' (Hl ++ [b]) (Fl ++ [li]) El) := HM5.out.pushF (HLg.out.lenF.trans HLh.out) hg6 hown6; have hgl6 := HM6.out.rowE.lt; clear hown6 hg6 hgl5) | (at_builtin; refine wpList_append_fits _ rfl _ _ 28 rfl 0 29 i0 1 Try.underlying28 hi0 hz1 (w2.heap.size + 4) ke k (El.map P0) rfl (World.ownsRow.alloc (HM6.out.rowE.ownk HLe.out) _) ⟨w6.heap.size, 0, none⟩ 1 1 [.pointer (some ⟨b, 0, none⟩)] rfl rfl (cell_one_new _ _ _) (by simp [Value.oneCell']) (by omega) ?_; intro w7 hown7 hg7; have HM7 : Hid (Mem w2 w7 k st' (Hl ++ [b]) (Fl ++ [li]) (El ++ [b])) := HM6.out.pushE HLe.out hg7 (by rw [← HSb.out]; exact (HM6.out.cache.blkOf HSa.out).isSet) hown7; clear hown7 hg7 hgl6))
                      have hs7 := HM7.out.cache.blkOf HSa.out
                      obtain ⟨aq, caps, sm, c0, c1, c2, c3, hsm, hrs, hblt, _⟩ := hs7.cells
                      rw [HSb.out, HSk.out, HMk.out] at c0
                      rw [HSb.out] at c3 hblt
                      rw [HSk.out] at hrs
                      have hcl7 := HCl1.out w7 HM7.out.bel
                      have HK14 := Hid.mk (keys_any b aq mk caps ks w7.drew c0 (by exact hblt) HMk (by exact hrs) hll)
                      have HR7 : Hid (Reads w7 aq ks) := hrs
                      have HRd7 : Hid (Reads w7 a' ks) := HRd2.out.below HM7.out.bel
                      have HSm : Hid (w7.heap[sm]? = some (.map #[] 0)) := hsm
                      have hli0 : (0 : Int) ≤ (li : Int) := by omega
                      have hli1 : (li : Int) < (nl : Int) := by omega
                      clear hrs hs7 c1 c2 hsm
                      go_region_held3 (fun w' => w'.cell? ⟨gl, offl + li, none⟩ = some (.slice a' mk cap'))
                        (first | exact y6 | go_keep)
                        (first | (go_at_call 14; refine HK14.out.mono ?_; rintro e w8 ⟨a5, cap5, rfl, hown8, hb8⟩; have y6 := cell_later (w := w7) (wx := w8) ⟨hb8.os, hb8.tape, hb8.output, hb8.size, hb8.block⟩ hcl7) | (go_at_call 11; refine (equalKeys_any a5 a' mk mk cap5 cap' ks ks _ HMk HMk (reads_of_own hown8) (HRd7.out.below ⟨hb8.os, hb8.tape, hb8.output, hb8.size, hb8.block⟩) hll hll).mono ?_; rintro e w9 ⟨rfl, q7, hw9⟩; subst w9; rw [show decide (ks = ks) = true from decide_eq_true rfl]) | (go_at_call 15; refine (sums_any b sm _ (by exact cell_later (w := w7) (wx := w8) ⟨hb8.os, hb8.tape, hb8.output, hb8.size, hb8.block⟩ c3) (by exact (hb8.block sm (by exact lt_of_blk HSm.out)).trans HSm.out)).mono ?_; rintro e w9 ⟨rfl, hw9⟩; subst w9))
                      have hB8 : Below w7.heap.size w7 w8 := ⟨hb8.os, hb8.tape, hb8.output, hb8.size, hb8.block⟩
                      have HM8 : Hid (Mem w2 w8 k st' (Hl ++ [b]) (Fl ++ [li]) (El ++ [b])) := HM7.out.below hB8
                      have HA := Hid.mk (HLg4.out.bal.answers HM8.out.cache (HLg4.out.bounds (by omega)) b (by simp))
                      have HP13 : Hid (∀ wx : World, wx.heap = w8.heap → Calls Try.prog 13 #[.slice (some ⟨w2.heap.size + 2, 0, none⟩) (kh + 1) k, .pointer (some ⟨b, 0, none⟩)] wx fun e w' => e = .returned (.int .i64 ((Hl ++ [b]).count b : Nat)) ∧ w' = wx) := fun wx hx =>
                        countPtr_any _ _ _ (Hl ++ [b]) b wx (show (Hl ++ [b]).length = kh + 1 by simp [HLh.out]) ((HM8.out.preadsH HLg4.out.bal).heap hx) (by have := (HM8.out.cache.blkOf HSa.out).blk; rw [HSb.out] at this; unfold IsBlk at *; rw [hx]; exact this) (by omega)
                      obtain ⟨cn, hcn⟩ : ∃ cn, (Hl ++ [b]).count b = cn := ⟨_, rfl⟩
                      rw [hcn] at HA HP13
                      have hne : (((cn : Nat) : Int) != (cn : Int)) = false := by simp
                      clear hown8 hb8 y6 c0 c3 hcl7 hcn
                      go_wp2_with (first | (go_at_call 16; refine (HA.out.1 _ (by exact rfl)).mono ?_; rintro e w9 ⟨rfl, hw9⟩; subst w9) | (go_at_call 13; refine (HP13.out _ (by exact rfl)).mono ?_; rintro e w9 ⟨rfl, hw9⟩; subst w9) | (go_at_call 17; refine (HA.out.2 _ (by exact rfl)).mono ?_; rintro e w9 ⟨rfl, q9, hw9⟩; subst w9))
                      go_roundw
                      case rel => exact ⟨t + 1, kh + 1, ke + 1, Hl ++ [b], Fl ++ [li], El ++ [b], Kl ++ [ks], st', by omega, by simp [HLh.out], by simp [HLe.out], by go_num, rfl, rfl, rfl, HM8.out.below ⟨rfl, rfl, rfl, Nat.le_refl _, fun _ _ => rfl⟩, HLg4.out⟩
                      case measure => simp [intOf]; omega
                · obtain ⟨q, hqs⟩ : ∃ q : Nat, -(s + 1) = (q : Int) := ⟨(-(s + 1)).toNat, by omega⟩
                  have hwr1 : IntKind.i64.wrap s = s := by simp [IntKind.wrap, IntKind.bits, IntKind.signed]; omega
                  have hwr2 : IntKind.i64.wrap (s + 1) = s + 1 := by simp [IntKind.wrap, IntKind.bits, IntKind.signed]; omega
                  have hwr3 : IntKind.i64.wrap (-(s + 1)) = (q : Int) := by rw [← hqs]; simp [IntKind.wrap, IntKind.bits, IntKind.signed]; omega
                  have HQs : Hid (-(s + 1) = (q : Int)) := hqs
                  clear hs hg hqs
                  by_cases hq : q < kh
                  · have hq' : ¬ (kh : Int) ≤ (q : Int) := by omega
                    obtain ⟨b, hb⟩ : ∃ b, Hl[q]? = some b := ⟨_, List.getElem?_eq_getElem (by rw [HLh.out]; exact hq)⟩
                    have HB : Hid (Hl[q]? = some b) := hb
                    have cb : wr.cell? ⟨w2.heap.size + 2, q, none⟩ = some (.pointer (some ⟨b, 0, none⟩)) := HM.out.rowH.cell hb
                    clear hb
                    go_wp2_with fail
                    clear hcell hwr1 hwr2 hwr3 cb
                    rename World => wa
                    go_loopw [19] (fun mv wx => ∃ (m : Nat) (H F : List Nat), q ≤ m ∧ m + 1 ≤ kh ∧ mv = .int .i64 m ∧ H.length = kh ∧ F.length = kh ∧ (∀ p, p < kh → H[p]? = some (shv Hl q m p)) ∧ (∀ p, p < kh → F[p]? = some (shv Fl q m p)) ∧ Mem w2 wx k st H F El) (fun mv _ => kh - (intOf mv).toNat)
                    case atStart =>
                      have hlf : Fl.length = kh := HLg.out.lenF.trans HLh.out
                      refine ⟨q, Hl, Fl, Nat.le_refl _, by omega, rfl, HLh.out, hlf, fun p hp => ?_, fun p hp => ?_, HM.out⟩
                      · have hpl : p < Hl.length := by rw [HLh.out]; exact hp
                        unfold shv; rw [if_neg (by omega)]; simp [List.getD, hpl]
                      · have hpl : p < Fl.length := by rw [hlf]; exact hp
                        unfold shv; rw [if_neg (by omega)]; simp [List.getD, hpl]
                    case round =>
                      clear HM
                      obtain ⟨m, H, F, hqm, hmk, rfl, hHl, hFl, hH, hF, hm⟩ := hrel
                      by_cases hml : m + 1 < kh
                      · obtain ⟨x, hx⟩ : ∃ x, Hl[m + 1]? = some x := ⟨_, List.getElem?_eq_getElem (by rw [HLh.out]; exact hml)⟩
                        obtain ⟨y, hy⟩ : ∃ y, Fl[m + 1]? = some y := ⟨_, List.getElem?_eq_getElem (by rw [HLg.out.lenF, HLh.out]; exact hml)⟩
                        have cx : wr.cell? ⟨w2.heap.size + 2, m + 1, none⟩ = some (.pointer (some ⟨x, 0, none⟩)) := hm.rowH.cell (shv_next hml hH hx)
                        have c0 : wr.cell? ⟨w2.heap.size + 2, m, none⟩ = some (P0 (shv Hl q m m)) := hm.rowH.cell (hH m (by omega))
                        have cy : wr.cell? ⟨w2.heap.size + 3, m + 1, none⟩ = some (.int .i64 (y : Nat)) := hm.rowF.cell (shv_next hml hF hy)
                        have c1 : wr.cell? ⟨w2.heap.size + 3, m, none⟩ = some (I0 (shv Fl q m m)) := hm.rowF.cell (hF m (by omega))
                        have f0 := hm.rowH.free m
                        have f1 := hm.rowF.free m
                        have hm0 : (0 : Int) ≤ (m : Int) := by omega
                        have hm1 : (m : Int) < (kh : Int) := by omega
                        have HX : Hid (Hl[m + 1]? = some x) := hx
                        have HY : Hid (Fl[m + 1]? = some y) := hy
                        have HH : Hid (∀ p, p < kh → H[p]? = some (shv Hl q m p)) := hH
                        have HF : Hid (∀ p, p < kh → F[p]? = some (shv Fl q m p)) := hF
                        have HHl : Hid (H.length = kh) := hHl
                        have HFl : Hid (F.length = kh) := hFl
                        have HM1 : Hid (Mem w2 wr k st H F El) := hm
                        clear hm hx hy hH hF hHl hFl
                        go_wp2_with fail
                        go_roundw
                        case rel =>
                          refine ⟨m + 1, H.set m x, F.set m y, by omega, by omega, by go_num, by simp [HHl.out], by simp [HFl.out], shv_set HLh.out hqm hml HH.out HX.out, shv_set (HLg.out.lenF.trans HLh.out) hqm hml HF.out HY.out, ?_⟩
                          exact (HM1.out.setH m x).setF m y
                        case measure => simp [intOf]; omega
                      · have hmm : kh = m + 1 := by omega
                        subst hmm
                        have eH := shv_end HLh.out hqm hHl hH
                        have eF := shv_end (HLg.out.lenF.trans HLh.out) hqm hFl hF
                        have HM1 : Hid (Mem w2 wr k st (H.take m) (F.take m) El) := hm.take m
                        have HHl : Hid ((H.take m).length = m) := show (H.take m).length = m by simp [hHl]
                        have HFl : Hid ((F.take m).length = m) := show (F.take m).length = m by simp [hFl]
                        obtain ⟨H', hH'⟩ : ∃ H', H' = H.take m := ⟨_, rfl⟩
                        obtain ⟨F', hF'⟩ : ∃ F', F' = F.take m := ⟨_, rfl⟩
                        rw [← hH'] at eH HM1 HHl
                        rw [← hF'] at eF HM1 HFl
                        obtain ⟨jb, ib, B, sb, hB, hsB, hsb, hsn⟩ := HLg.out.bal.at HB.out
                        rw [← eH] at hsn
                        obtain ⟨c, hcc⟩ : ∃ c, H'.count b = c := ⟨_, rfl⟩
                        rw [hcc] at hsn
                        have hcm : c ≤ m := by rw [← hcc, ← HHl.out]; exact List.count_le_length
                        have hbd := HLg.out.bounds (by omega)
                        have HRel := Hid.mk (zzrelease_any _ _ _ st wr HM1.out.cache jb ib B sb hB hsB (by omega) (by omega) (hbd B (List.mem_of_getElem? hB)).1)
                        rw [hsb] at HRel
                        have HEH : Hid (H' = Hl.eraseIdx q) := eH
                        have HEF : Hid (F' = Fl.eraseIdx q) := eF
                        have HCc : Hid (H'.count b = c) := hcc
                        have HBB : Hid (st[jb]? = some B) := hB
                        have HSB : Hid (B.sets[ib]? = some sb) := hsB
                        have HSb : Hid (sb.b = b) := hsb
                        have HSn : Hid (sb.n = (c : Nat) + 1) := hsn
                        clear hH' hF' eH eF hB hsB hsb hsn hcc hbd hm hH hF hHl hFl
                        go_wp2_with (first | (go_at_call 26; refine HRel.out.mono ?_; rintro e w4 ⟨rfl, st3, hc4, hr4, hs4, ho4⟩; obtain ⟨t', htb, htn, hta, hmem4, hlg4, hin4⟩ := rel5_pack HM1.out HLg.out HEH.out HEF.out HB.out HBB.out HSB.out HSb.out HCc.out HSn.out hc4 hr4 hs4 ho4; clear hc4 hr4 hs4 ho4))
                        obtain ⟨_, _, _, _, _, c2, _⟩ := hta.cells
                        rw [htb, htn] at c2
                        have HP13 := Hid.mk (countPtr_any (some ⟨w2.heap.size + 2, 0, none⟩) m k H' b w4 HHl (hmem4.preadsH hlg4.bal) (by rw [← htb]; exact hta.blk) (by omega))
                        rw [HCc.out] at HP13
                        have HP17 := Hid.mk (zzheld_any _ _ _ st3 w4 hmem4.cache t' hta (hlg4.bounds (by omega)))
                        rw [htb, hin4] at HP17
                        have HM4 : Hid (Mem w2 w4 k st3 H' F' El) := hmem4
                        have HLg4 : Hid (Lg t ls st3 H' F' El (Kl.eraseIdx q)) := hlg4
                        have hne : (((c : Nat) : Int) != (c : Int)) = false := by simp
                        clear hmem4 hlg4 hta htb htn hin4
                        by_cases hc0 : 0 < c
                        · rw [decide_eq_true hc0] at HP17
                          go_wp2_with (first | (go_at_call 13; refine HP13.out.mono ?_; rintro e w9 ⟨rfl, hw9⟩; subst w9) | (go_at_call 16; refine (holders_any _ _ _ c2).mono ?_; rintro e w9 ⟨rfl, hw9⟩; subst w9) | (go_at_call 17; refine HP17.out.mono ?_; rintro e w9 ⟨rfl, q9, hw9⟩; subst w9))
                          go_roundw
                          case rel => exact ⟨t + 1, m, ke, H', F', El, _, st3, by omega, HHl.out, HLe.out, by go_num, rfl, rfl, rfl, HM4.out.drewN _, HLg4.out.mono (by omega)⟩
                          case measure => simp [intOf]; omega
                        · rw [decide_eq_false hc0] at HP17
                          go_wp2_with (first | (go_at_call 13; refine HP13.out.mono ?_; rintro e w9 ⟨rfl, hw9⟩; subst w9) | (go_at_call 16; refine (holders_any _ _ _ c2).mono ?_; rintro e w9 ⟨rfl, hw9⟩; subst w9) | (go_at_call 17; refine HP17.out.mono ?_; rintro e w9 ⟨rfl, q9, hw9⟩; subst w9))
                          go_roundw
                          case rel => exact ⟨t + 1, m, ke, H', F', El, _, st3, by omega, HHl.out, HLe.out, by go_num, rfl, rfl, rfl, HM4.out.drewN _, HLg4.out.mono (by omega)⟩
                          case measure => simp [intOf]; omega
                  · have hq' : (kh : Int) ≤ (q : Int) := by omega
                    have HM' : Hid (Mem w2 (wr.alloc (.cells #[.pointer none] 29)) k st Hl Fl El) := HM.out.below (below_alloc' (Below.refl _ _) _)
                    have HCk := Hid.mk (checkHandles_any _ _ _ st _ HM'.out.cache (some ⟨w2.heap.size + 2, 0, none⟩) kh k Hl HLh (HM'.out.preadsH HLg.out.bal) HLg.out.bal (by omega) (HLg.out.bounds (by omega)))
                    have hne : ((st.length : Int) != (st.length : Int)) = false := by simp
                    go_wp2_with (first | (go_at_call 22; refine (fingerprints_any _ _ _ _ _ HM.out.cache).mono ?_; rintro e w9 ⟨rfl, hw9⟩; subst w9) | (go_at_call 22; refine (fingerprints_any _ _ _ _ _ HM'.out.cache).mono ?_; rintro e w9 ⟨rfl, hw9⟩; subst w9) | (go_at_call 26; refine (zzreleaseNil_any _ _).mono ?_; rintro e w9 ⟨rfl, hw9⟩; subst w9) | (go_at_call 27; refine HCk.out.mono ?_; rintro e w9 ⟨rfl, q9, hw9⟩; subst w9))
                    go_roundw
                    case rel => exact ⟨t + 1, kh, ke, Hl, Fl, El, Kl, st, by omega, HLh.out, HLe.out, by go_num, rfl, rfl, rfl, HM'.out.drewN _, HLg.out.mono (by omega)⟩
                    case measure => simp [intOf]; omega
              · have hte : t = k := by omega
                subst hte
                have HCk := Hid.mk (checkHandles_any _ _ _ st wr HM.out.cache (some ⟨w2.heap.size + 2, 0, none⟩) kh t Hl HLh (HM.out.preadsH HLg.out.bal) HLg.out.bal (by omega) (HLg.out.bounds (by omega)))
                have HSh := Hid.mk (fun q => shape_any _ _ _ st (wr.drewN q) (HM.out.drewN q).cache (some ⟨w2.heap.size + 2, 0, none⟩) kh t Hl HLh ((HM.out.drewN q).preadsH HLg.out.bal) HLg.out.bal (by omega) (HLg.out.bounds (by omega)))
                go_wp2_with (first | (go_at_call 27; refine HCk.out.mono ?_; rintro e w9 ⟨rfl, q9, hw9⟩; subst w9) | (go_at_call 18; refine (HSh.out _).mono ?_; rintro e w9 ⟨rfl, q8, hw9⟩; subst w9))
                go_ret
                exact ⟨rfl, ((hb1.trans (hb2.mono hb1.size)).trans (HM.out.bel.mono (Nat.le_trans hb1.size hb2.size))).trans ⟨rfl, rfl, rfl, Nat.le_refl _, fun _ _ => rfl⟩⟩
    · have hn' : (4096 : Int) < (n : Int) := by omega
      go_wp2_with fail
      go_ret
      exact ⟨rfl, Below.refl _ _⟩

end Go.Proofs.Qxb6604108a
