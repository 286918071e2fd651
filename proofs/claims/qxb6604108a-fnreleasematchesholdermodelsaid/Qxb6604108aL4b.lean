import Derived.Test.Qxb6604108aL4
namespace Go.Proofs.Qxb6604108a
open Go.RowKit
set_option linter.unusedVariables false
set_option linter.unusedSimpArgs false

theorem cache_new (w : World) : Cache ((w.alloc (.map #[] 0)).alloc (.cells #[.map (some w.heap.size)] 52)) (w.heap.size + 1) w.heap.size (w.heap.size + 2) [] := by
  refine ⟨by omega, by omega, by simp, ?_, ⟨#[], 0, ?_, rfl⟩, by simp, by simp, by simp, by simp, by simp, by simp [setsOf]⟩
  · have := heap_alloc_new (w.alloc (.map #[] 0)) (.cells #[.map (some w.heap.size)] 52)
    simpa using this
  · rw [Below.heap_alloc _ _ _ (by simp)]; exact heap_alloc_new w _

theorem Cache.drewN {w : World} {bc bm base : Nat} {st : List Bucket} (h : Cache w bc bm base st) (q : Nat) : Cache (w.drewN q) bc bm base st := h.keep (Nat.le_refl _) (fun _ _ _ => rfl)

theorem bucketLen_at {w : World} {bc bm base : Nat} {st : List Bucket} (hc : Cache w bc bm base st) {j : Nat} {B : Bucket} (hB : st[j]? = some B) :
    Calls Try.prog 23 #[.pointer (some ⟨bc, 0, none⟩), .int .u64 B.fp] w fun e w' => e = .returned (.int .i64 B.sets.length) ∧ w' = w := by
  have mB := List.mem_of_getElem? hB
  have hm : (mapOf st)[j]? = some (B.fp, B.v) := by simp [mapOf, hB]
  have hl : lookV (mapOf st) B.fp = B.v := by unfold lookV; rw [find_of_at hc.nd hm]; rfl
  obtain ⟨g, cap, hv, _⟩ := (hc.row B mB).form (List.length_pos_iff.2 (hc.ne B mB))
  exact bucketLen_any bc bm base st w B.fp hc (some ⟨g, 0, none⟩) B.sets.length cap (hl.trans hv)

theorem held_first {ks : List Key} {b H : Nat} {st' : List Bucket} (h : HeldBy [] ks b H st') : ∃ v', st' = [⟨fpOf ks, v', [⟨b, ks, 1⟩]⟩] := by
  rcases h with ⟨j, B, i, s, h1, _⟩ | ⟨j, B, v', h1, _⟩ | ⟨v', _, _, h⟩
  · simp at h1
  · simp at h1
  · exact ⟨v', by simpa using h⟩

theorem held_second {ks : List Key} {b1 b2 : Nat} {v1 : Value} {st' : List Bucket} {w : World} {bc bm base : Nat} (h : HeldBy [⟨fpOf ks, v1, [⟨b1, ks, 1⟩]⟩] ks.reverse b2 w.heap.size st') (hc : Cache w bc bm base [⟨fpOf ks, v1, [⟨b1, ks, 1⟩]⟩]) :
    (ks = ks.reverse ∧ b2 = b1 ∧ st' = [⟨fpOf ks, v1, [⟨b1, ks, 2⟩]⟩]) ∨ (ks ≠ ks.reverse ∧ b1 ≠ b2 ∧ ∃ v', st' = [⟨fpOf ks, v', [⟨b1, ks, 1⟩, ⟨b2, ks.reverse, 1⟩]⟩]) := by
  have hlt : b1 < w.heap.size := (hc.set _ (List.mem_singleton.2 rfl) _ (List.mem_singleton.2 rfl)).1.lt
  rcases h with ⟨j, B, i, s, h1, h2, h3, h4, h5, h6⟩ | ⟨j, B, v', h1, h2, h3, h4, h5⟩ | ⟨v', h1, _⟩
  · obtain ⟨rfl, rfl⟩ : j = 0 ∧ B = ⟨fpOf ks, v1, [⟨b1, ks, 1⟩]⟩ := by
      match j, h1 with
      | 0, h1 => simp at h1; exact ⟨rfl, h1.symm⟩
      | j + 1, h1 => simp at h1
    obtain ⟨rfl, rfl⟩ : i = 0 ∧ s = ⟨b1, ks, 1⟩ := by
      match i, h3 with
      | 0, h3 => simp at h3; exact ⟨rfl, h3.symm⟩
      | i + 1, h3 => simp at h3
    exact Or.inl ⟨h4, h5, h6⟩
  · obtain ⟨rfl, rfl⟩ : j = 0 ∧ B = ⟨fpOf ks, v1, [⟨b1, ks, 1⟩]⟩ := by
      match j, h1 with
      | 0, h1 => simp at h1; exact ⟨rfl, h1.symm⟩
      | j + 1, h1 => simp at h1
    exact Or.inr ⟨h3 _ (List.mem_singleton.2 rfl), by omega, v', h5⟩
  · exact absurd (fpOf_reverse ks).symm (h1 _ (List.mem_singleton.2 rfl))

set_option maxHeartbeats 2000000 in
theorem law4_any (a : Option Addr) (n cap : Nat) (ks : List Key) (w : World) (Hn : Hid (ks.length = n)) (hr : Reads w a ks) (hmax : n ≤ 9223372036854775807) (h0 : a = none → n = 0) :
    Calls Try.prog 4 #[.slice a n cap] w fun e w' => e = .returned (.bool true) ∧ Below w.heap.size w w' := by
  by_cases h1 : n ≤ 1048576
  · have d1 : Hid (decide (n ≤ 1048576) = true) := by simp [Hid, h1]
    by_cases h2 : n ≤ 32768
    · have g2 : ¬ (32768 : Int) < (n : Int) := by omega
      have hmk := mk41 ks.reverse n h1
      have HR0 : Hid (Reads w a ks) := hr
      have H0 : Hid (a = none → n = 0) := h0
      clear hr h0
      go_enter Try.func4, Try.ntmps4
      go_wp2_with (first | (go_at_call 19; refine (bytes19_any _ _ _ _ hmax).mono ?_; rintro e w' ⟨rfl, hww⟩; subst w'; rw [d1.out]) | (go_at_call 20; refine (copyKeys_any a n cap ks _ Hn HR0.out h1 H0.out).mono ?_; rintro e w1 ⟨a1, cap1, rfl, hown1, hb1⟩))
      go_loopw [4] (fun i wr => ∃ k : Nat, k ≤ n ∧ i = .int .i64 k ∧ wr.heap[w1.heap.size]? = some (.cells (rowK ks.reverse k n) 41 (0, 0)) ∧ Below w1.heap.size w1 wr) (fun i _ => n - (intOf i).toNat)
      case atStart => exact ⟨0, Nat.zero_le _, rfl, heap_alloc_new w1 _, (Below.refl _ _).alloc (Nat.le_refl _) _⟩
      case round =>
        obtain ⟨k, hk, rfl, hrow, hbel⟩ := hrel
        have hRl : ks.reverse.length = n := by rw [List.length_reverse]; exact Hn.out
        by_cases hlt : k < n
        · have hks := Hn.out
          obtain ⟨b, o, hx, hb, hc⟩ := (reads_of_own hown1) k (by omega)
          cases hx
          obtain ⟨a0, a1, a2⟩ := hc (n - 1 - k) (by omega)
          have hke := kAt_reverse ks k (by omega)
          rw [hks] at hke
          rw [hke] at a0 a1 a2
          have r0 := (hbel.cell (p := ⟨b, o + (n - 1 - k) * 3, none⟩) hb).trans a0
          have r1 := (hbel.cell (p := ⟨b, o + (n - 1 - k) * 3 + 1, none⟩) hb).trans a1
          have r2 := (hbel.cell (p := ⟨b, o + (n - 1 - k) * 3 + 2, none⟩) hb).trans a2
          have hsz := rowK_size ks.reverse k n hk hRl.symm
          have f0 := free_of_block hrow (k * 3)
          have f1 := free_of_block hrow (k * 3 + 1)
          have f2 := free_of_block hrow (k * 3 + 2)
          obtain ⟨v0, c0⟩ := cell_at_block hrow (k * 3) (by omega)
          obtain ⟨v1, c1⟩ := cell_at_block hrow (k * 3 + 1) (by omega)
          obtain ⟨v2, c2⟩ := cell_at_block hrow (k * 3 + 2) (by omega)
          have HRl : Hid (ks.reverse.length = n) := hRl
          have HRW : Hid (wr.heap[w1.heap.size]? = some (.cells (rowK ks.reverse k n) 41 (0, 0))) := hrow
          clear hc a0 a1 a2 hks hsz hmk hRl hke hrow hown1
          go_wp2
          go_roundw
          case rel =>
            refine ⟨k + 1, by omega, by go_num, ?_, ((hbel.setCell (Nat.le_refl _) _).setCell (Nat.le_refl _) _).setCell (Nat.le_refl _) _⟩
            rw [block_setCell (block_setCell (block_setCell HRW.out _ _) _ _) _ _, rowK_step ks.reverse k n hlt HRl.out.symm]
          case measure => simp [intOf]; omega
        · have hk' : k = n := by omega
          subst hk'
          rw [rowK_full ks.reverse k hRl.symm] at hrow
          have HK1 : Hid (Reads wr a1 ks) := (reads_of_own hown1).below hbel
          have HK2 : Hid (Reads wr (some ⟨w1.heap.size, 0, none⟩) ks.reverse) := reads_of_block ks.reverse hrow (List.take_of_length_le (by simp [flat_length]))
          have HRl : Hid (ks.reverse.length = k) := hRl
          have hbw : Below w.heap.size w wr := hb1.trans (hbel.mono hb1.size)
          clear hrow hown1 hmk hbel hRl hb1 hlt
          have hCN := cache_new wr
          go_wp2_with (first | (go_at_call 10; refine (newCache_any _).mono ?_; rintro e w3 ⟨rfl, hw3⟩; rw [← hw3] at hCN; have hb3 : Below wr.heap.size wr w3 := (by rw [hw3]; exact below_alloc' (below_alloc' (Below.refl _ _) _) _); clear hw3))
          refine (zzhold_any _ _ _ [] a1 k cap1 ks _ Hn (HK1.out.below hb3) h1 hCN (by simp)).mono ?_
          rintro e w4 ⟨b1, st1, rfl, hc4, hh4, ho4⟩
          have hb4 : Below wr.heap.size wr w4 := hb3.trans (ho4.below hb3.size (fun j hj => by omega))
          obtain ⟨v1, hst1⟩ := held_first hh4
          subst hst1
          clear ho4 hh4 hb3 hCN
          go_wp2_with fail
          refine (zzhold_any _ _ _ _ (some ⟨w1.heap.size, 0, none⟩) k k ks.reverse _ HRl (HK2.out.below hb4) h1 hc4 (by simp)).mono ?_
          rintro e w5 ⟨b2, st2, rfl, hc5, hh5, ho5⟩
          have hb5 : Below wr.heap.size wr w5 := hb4.trans (ho5.below hb4.size (fun j hj => by omega))
          have hsum := held_second hh5 hc4
          clear ho5 hh5 hb4 hc4
          have HC5 : Hid (Cache w5 (wr.heap.size + 1) wr.heap.size (wr.heap.size + 2) st2) := hc5
          have HR5 : Hid (Reads w5 a1 ks) := HK1.out.below hb5
          have HR6 : Hid (Reads w5 (some ⟨w1.heap.size, 0, none⟩) ks.reverse) := HK2.out.below hb5
          have hbF : Below w.heap.size w w5 := hbw.trans (hb5.mono hbw.size)
          clear hc5 hbw hb5
          rcases hsum with ⟨hrev, hbb, hst2⟩ | ⟨hrev, hbb, hst2⟩
          · subst hbb
            subst hst2
            have HRv : Hid (ks = ks.reverse) := hrev
            clear hrev
            have hsA := (HC5.out.set _ (List.mem_singleton.2 rfl) _ (List.mem_singleton.2 rfl)).1
            obtain ⟨a2, cap2, sm, c0, c1, c2, _⟩ := hsA.cells
            simp only at c0 c1 c2
            have hpe : ∀ q, (binOp .eql 29 (.pointer (some ⟨b2, 0, none⟩)) (.pointer (some ⟨b2, 0, none⟩))).run Try.prog (w5.drewN q) = .ok (.bool (b2 == b2)) (w5.drewN q) := fun q => eqlPtr hsA.blk hsA.blk
            simp only [BEq.rfl] at hpe
            clear hsA
            go_wp2_with (first | (go_at_call 21; refine (fingerprint_any _ _ _ c1).mono ?_; rintro e w' ⟨rfl, hww⟩; subst w') | (go_at_call 22; refine (fingerprints_any _ _ _ _ _ HC5.out).mono ?_; rintro e w' ⟨rfl, hww⟩; subst w'))
            refine (equalKeys_any a1 (some ⟨w1.heap.size, 0, none⟩) k k cap1 k ks ks.reverse _ Hn HRl HR5.out HR6.out h1 h1).mono ?_
            rintro e w6 ⟨rfl, q, hw6⟩
            subst w6
            rw [show decide (ks = ks.reverse) = true from decide_eq_true HRv.out]
            go_wp2_with (first | (go_at_call 16; refine (holders_any _ _ _ (by exact c2)).mono ?_; rintro e w' ⟨rfl, hww⟩; subst w') | (go_at_call 23; refine (bucketLen_at (HC5.out.drewN q) (j := 0) rfl).mono ?_; rintro e w' ⟨rfl, hww⟩; subst w'))
            go_ret
            exact ⟨rfl, hbF.trans ⟨rfl, rfl, rfl, Nat.le_refl _, fun _ _ => rfl⟩⟩
          · obtain ⟨v2, hst2⟩ := hst2
            subst hst2
            have HRv : Hid (¬ ks = ks.reverse) := hrev
            clear hrev
            have hsA := (HC5.out.set _ (List.mem_singleton.2 rfl) ⟨b1, ks, 1⟩ (by simp)).1
            have hsB := (HC5.out.set _ (List.mem_singleton.2 rfl) ⟨b2, ks.reverse, 1⟩ (by simp)).1
            have HsA : Hid (SetAt w5 (wr.heap.size + 2) ⟨b1, ks, 1⟩) := hsA
            have HsB : Hid (SetAt w5 (wr.heap.size + 2) ⟨b2, ks.reverse, 1⟩) := hsB
            obtain ⟨a2, cap2, sm, c0, c1, c2, _, _, rd1, lb1, _⟩ := hsA.cells
            obtain ⟨a3, cap3, sm3, d0, d1', d2, _, _, rd2, lb2, _⟩ := hsB.cells
            simp only [fpOf_reverse, List.length_reverse] at c0 c1 c2 d0 d1' d2
            have HR7 : Hid (Reads w5 a2 ks) := rd1
            have HR8 : Hid (Reads w5 a3 ks.reverse) := rd2
            clear hsA hsB rd1 rd2
            go_wp2_with (first | (go_at_call_of 21 (Value.pointer (some ⟨b1, 0, none⟩)); refine (fingerprint_any _ _ _ c1).mono ?_; rintro e w' ⟨rfl, hww⟩; subst w') | (go_at_call_of 21 (Value.pointer (some ⟨b2, 0, none⟩)); refine (fingerprint_any _ _ _ d1').mono ?_; rintro e w' ⟨rfl, hww⟩; subst w') | (go_at_call 22; refine (fingerprints_any _ _ _ _ _ HC5.out).mono ?_; rintro e w' ⟨rfl, hww⟩; subst w'))
            refine (equalKeys_any a1 (some ⟨w1.heap.size, 0, none⟩) k k cap1 k ks ks.reverse _ Hn HRl HR5.out HR6.out h1 h1).mono ?_
            rintro e w6 ⟨rfl, q, hw6⟩
            subst w6
            rw [show decide (ks = ks.reverse) = false from decide_eq_false HRv.out]
            have hpe : (binOp .neq 29 (.pointer (some ⟨b1, 0, none⟩)) (.pointer (some ⟨b2, 0, none⟩))).run Try.prog (w5.drewN q) = .ok (.bool true) (w5.drewN q) := by
              rw [neqPtr (w := w5.drewN q) HsA.out.blk HsB.out.blk]; simp [hbb]
            go_wp2_with (first | (go_at_call_of 16 (Value.pointer (some ⟨b1, 0, none⟩)); refine (holders_any _ _ _ (by exact c2)).mono ?_; rintro e w' ⟨rfl, hww⟩; subst w') | (go_at_call_of 16 (Value.pointer (some ⟨b2, 0, none⟩)); refine (holders_any _ _ _ (by exact d2)).mono ?_; rintro e w' ⟨rfl, hww⟩; subst w') | (go_at_call 23; refine (bucketLen_at (HC5.out.drewN q) (j := 0) rfl).mono ?_; rintro e w' ⟨rfl, hww⟩; subst w'))
            have HD0 : Hid (w5.cell? ⟨b2, 0, none⟩ = some (.slice a3 ks.length cap3)) := d0
            refine (keys_any b1 a2 ks.length cap2 ks _ (by exact c0) (by exact lb1) rfl (by exact HR7.out) (by rw [Hn.out]; exact h1)).mono ?_
            rintro e w7 ⟨a4, cap4, rfl, hown4, hb7⟩
            have HB7 : Hid (Below w5.heap.size w5 w7) := ⟨hb7.os, hb7.tape, hb7.output, hb7.size, hb7.block⟩
            have HR9 : Hid (Reads w7 a4 ks) := reads_of_own hown4
            clear hown4 hb7 hpe c0 c1 c2 d0 d1' d2
            go_wp2_with fail
            refine (equalKeys_any a4 a1 ks.length k cap4 cap1 ks ks _ rfl Hn HR9.out (HR5.out.below HB7.out) (by rw [Hn.out]; exact h1) h1).mono ?_
            rintro e w8 ⟨rfl, q2, hw8⟩
            subst w8
            rw [show decide (ks = ks) = true from decide_eq_true rfl]
            go_wp2_with fail
            have lb2' : b2 < w7.heap.size := Nat.lt_of_lt_of_le lb2 HB7.out.size
            refine (keys_any b2 a3 ks.length cap3 ks.reverse _ (by exact (HB7.out.cell lb2).trans HD0.out) (by exact lb2') (List.length_reverse) ((HR8.out.below HB7.out).drewN q2) (by rw [Hn.out]; exact h1)).mono ?_
            rintro e w9 ⟨a5, cap5, rfl, hown5, hb9⟩
            have HB9 : Hid (Below w7.heap.size w7 w9) := ⟨hb9.os, hb9.tape, hb9.output, hb9.size, hb9.block⟩
            have HR10 : Hid (Reads w9 a5 ks.reverse) := reads_of_own hown5
            clear hown5 hb9
            go_wp2_with fail
            refine (equalKeys_any a5 (some ⟨w1.heap.size, 0, none⟩) ks.length k cap5 k ks.reverse ks.reverse _ (List.length_reverse) HRl HR10.out ((HR6.out.below HB7.out).below HB9.out) (by rw [Hn.out]; exact h1) h1).mono ?_
            rintro e w10 ⟨rfl, q3, hw10⟩
            subst w10
            rw [show decide (ks.reverse = ks.reverse) = true from decide_eq_true rfl]
            go_wp2_with fail
            go_ret
            refine ⟨rfl, ?_⟩
            have hB : Below w.heap.size w w9 := (hbF.trans (HB7.out.mono hbF.size)).trans (HB9.out.mono (Nat.le_trans hbF.size HB7.out.size))
            exact hB.trans ⟨rfl, rfl, rfl, Nat.le_refl _, fun _ _ => rfl⟩
    · have g2 : (32768 : Int) < (n : Int) := by omega
      clear hr h0
      go_enter Try.func4, Try.ntmps4
      go_wp2_with (first | (go_at_call 19; refine (bytes19_any _ _ _ _ hmax).mono ?_; rintro e w' ⟨rfl, hww⟩; subst w'; rw [d1.out]))
      go_ret
      exact ⟨rfl, Below.refl _ _⟩
  · have d1 : Hid (decide (n ≤ 1048576) = false) := by simp [Hid, h1]
    clear hr h0
    go_enter Try.func4, Try.ntmps4
    go_wp2_with (first | (go_at_call 19; refine (bytes19_any _ _ _ _ hmax).mono ?_; rintro e w' ⟨rfl, hww⟩; subst w'; rw [d1.out]))
    go_ret
    exact ⟨rfl, Below.refl _ _⟩

end Go.Proofs.Qxb6604108a
