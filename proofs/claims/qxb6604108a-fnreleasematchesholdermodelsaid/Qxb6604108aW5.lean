import Derived.Test.Qxb6604108aW1
import Derived.Test.Qxb6604108aW3
import Derived.Test.Qxb6604108aW4
import Derived.Test.Qxb6604108aSteps
import Derived.Deep.RegionHeld3
import Derived.Deep.DrawnRows
namespace Go.Proofs.Qxb6604108a
open Go.RowKit

/-- What a hold does to the cache's buckets: H: the heap's size ahead of it. -/
def HeldBy (st : List Bucket) (ks : List Key) (b H : Nat) (st' : List Bucket) : Prop :=
  (∃ j B i s, st[j]? = some B ∧ B.fp = fpOf ks ∧ B.sets[i]? = some s ∧ s.keys = ks ∧ b = s.b ∧ st' = st.set j ⟨B.fp, B.v, B.sets.set i ⟨s.b, s.keys, s.n + 1⟩⟩) ∨
  (∃ j B v', st[j]? = some B ∧ B.fp = fpOf ks ∧ (∀ s ∈ B.sets, s.keys ≠ ks) ∧ H ≤ b ∧ st' = st.set j ⟨B.fp, v', B.sets ++ [⟨b, ks, 1⟩]⟩) ∨
  (∃ v', (∀ B ∈ st, B.fp ≠ fpOf ks) ∧ H ≤ b ∧ st' = st ++ [⟨fpOf ks, v', [⟨b, ks, 1⟩]⟩])

theorem below_alloc' {a x : World} (h : Below a.heap.size a x) (o : Obj) : Below a.heap.size a (x.alloc o) := h.alloc h.size o
theorem own_below {w w' : World} {base e size : Nat} {v : Value} {n : Nat} {xs : List Value} (h : w.ownsRow base e size v n xs) (hb : Below w.heap.size w w') : w'.ownsRow base e size v n xs :=
  row_kept h (S := fun _ => False) (fun k hk _ => hb.block k hk) (fun _ h => h.elim)
theorem Try.info29 : (Try.prog.info? 29).map (fun i => (i.zero, i.size, i.bytes)) = some (some (.pointer none), 1, 8) := by kernel_rfl

theorem push_mid {wr w5 w6 : World} {bc bm base : Nat} {st : List Bucket} {ks : List Key} {v : Value} {ss : List KS} {m : Nat} {xs : List Value} (hc : Cache wr bc bm base st) (hl : LookAt st ks v ss) (hB5 : Below wr.heap.size wr w5) (hg6 : w5.grownBy w6 v.ownBlock)
    (ho : wr.ownsRow base 29 1 v m xs) (v' : Value) (b : Nat) :
    ∃ w7 st', (Instr.mapUpdate 50 (.map (some bm)) (.int .u64 (fpOf ks)) v').run Try.prog w6 = .ok () w7 ∧ mapIs w7 bm (mapOf st') ∧ w6.grownBy w7 (some bm) ∧ Pushed st ks v ss v' b st' ∧
      w6.cell? ⟨bc, 0, none⟩ = some (.map (some bm)) ∧ w7.cell? ⟨bc, 0, none⟩ = some (.map (some bm)) := by
  have h1 := hc.lbc
  have h2 := hc.lbm
  have h3 := hc.lsz
  have s5 := hB5.size
  have hno : ∀ k, k < base → v.ownBlock ≠ some k := fun k hk e => by have := (ho.lt k e).1; omega
  have e6 : ∀ k, k < base → w6.heap[k]? = wr.heap[k]? := fun k hk => by
    rw [hg6.block k (by omega) (fun e => hno k hk e.symm), hB5.block k (by omega)]
  obtain ⟨w7, st', r1, r2, r3, r4⟩ := upd_run (hc.map.keep (e6 bm h2)) hc.fps hl v' b
  have b6 : w6.heap[bc]? = some (.cells #[.map (some bm)] 52 (0, 0)) := (e6 bc h1).trans hc.box
  have hne : bc ≠ bm := fun e => by
    obtain ⟨es, cl, e1, _⟩ := hc.map
    have := hc.box
    rw [e, e1] at this; cases this
  have b7 : w7.heap[bc]? = some (.cells #[.map (some bm)] 52 (0, 0)) := by
    rw [r3.block bc (lt_of_blk b6) (fun e => hne (Option.some.inj e))]; exact b6
  exact ⟨w7, st', r1, r2, r3, r4, cell_of_block b6 0, cell_of_block b7 0⟩

theorem look_cases {w : World} {bc bm base : Nat} {st : List Bucket} (hc : Cache w bc bm base st) (ks : List Key) (hN : ∀ B ∈ st, B.sets.length ≤ 1048576 ∧ ∀ s ∈ B.sets, 0 ≤ s.n ∧ s.n ≤ 1048576) :
    ∃ ag m capB ss, lookV (mapOf st) (fpOf ks) = .slice ag m capB ∧ w.ownsRow base 29 1 (.slice ag m capB) m (ss.map ptr) ∧ (∀ s ∈ ss, SetAt w base s ∧ 0 ≤ s.n ∧ s.n ≤ 1048576) ∧ Hid (LookAt st ks (.slice ag m capB) ss) ∧ m ≤ 1048576 := by
  by_cases h : ∃ B ∈ st, B.fp = fpOf ks
  · obtain ⟨B, hB, hfp⟩ := h
    obtain ⟨j, hj⟩ := List.getElem?_of_mem hB
    have hm : (mapOf st)[j]? = some (fpOf ks, B.v) := by simp [mapOf, hj, hfp]
    have hl : lookV (mapOf st) (fpOf ks) = B.v := by unfold lookV; rw [find_of_at hc.nd hm]; rfl
    have hrow := hc.row B hB
    have hlen : 0 < B.sets.length := List.length_pos_iff.2 (hc.ne B hB)
    obtain ⟨g, cap, hv, _⟩ := hrow.form hlen
    refine ⟨some ⟨g, 0, none⟩, B.sets.length, cap, B.sets, hl.trans hv, hv ▸ hrow, fun s hs => ⟨(hc.set B hB s hs).1, (hN B hB).2 s hs⟩, (Or.inl ⟨j, B, hj, hfp, rfl, hv.symm⟩ : LookAt _ _ _ _), (hN B hB).1⟩
  · have hne : ∀ B ∈ st, B.fp ≠ fpOf ks := fun B hB e => h ⟨B, hB, e⟩
    refine ⟨none, 0, 0, [], ?_, World.ownsRow_nil _ _ _ _, by simp, (Or.inr ⟨hne, rfl, rfl⟩ : LookAt _ _ _ _), by omega⟩
    unfold lookV
    rw [List.find?_eq_none.2]
    · rfl
    · intro p hp hpx
      obtain ⟨B, hB, rfl⟩ := List.mem_map.1 hp
      exact hne B hB (by simpa using hpx)

set_option maxHeartbeats 1000000 in
theorem hold_any (bc bm base : Nat) (st : List Bucket) (a : Option Addr) (n cap : Nat) (ks : List Key) (w : World) (Hn : Hid (ks.length = n)) (hr : Reads w a ks) (hn : n ≤ 1048576) (h0 : a = none → n = 0) (hc : Cache w bc bm base st)
    (hN : ∀ B ∈ st, B.sets.length ≤ 1048576 ∧ ∀ s ∈ B.sets, 0 ≤ s.n ∧ s.n ≤ 1048576) :
    Calls Try.prog 29 #[.pointer (some ⟨bc, 0, none⟩), .slice a n cap] w fun e w' => ∃ b st', e = .returned (.pointer (some ⟨b, 0, none⟩)) ∧ Cache w' bc bm base st' ∧ HeldBy st ks b w.heap.size st' ∧ Off (fun k => k = bm ∨ base ≤ k) w w' := by
  go_enter Try.func29, Try.ntmps29
  go_wp2_with fail
  go_loopw [5, 13] (fun f i wr => ∃ k : Nat, k ≤ n ∧ i = .int .i64 k ∧ f = .int .u64 (fpOf (ks.take k)) ∧ Below w.heap.size w wr) (fun _ i _ => n - (intOf i).toNat)
  case atStart => exact ⟨0, Nat.zero_le _, rfl, rfl, Below.refl _ _⟩
  case round =>
    obtain ⟨k, hk, rfl, rfl, hbel⟩ := hrel
    by_cases hlt : k < n
    · have hks := Hn.out
      obtain ⟨b, o, hx, hb, hcc⟩ := hr k (by omega)
      cases hx
      obtain ⟨a0, a1, a2⟩ := hcc k (by omega)
      have r0 := (hbel.cell (p := ⟨b, o + k * 3, none⟩) hb).trans a0
      have r1 := (hbel.cell (p := ⟨b, o + k * 3 + 1, none⟩) hb).trans a1
      have r2 := (hbel.cell (p := ⟨b, o + k * 3 + 2, none⟩) hb).trans a2
      have HS : Hid (fpOf (ks.take (k + 1)) = IntKind.u64.wrap (fpOf (ks.take k) + term (kAt ks k))) := fpOf_take ks k (by omega)
      clear hr hcc a0 a1 a2 hks hc hN h0
      generalize fpOf (ks.take k) = fk at *
      generalize kAt ks k = kk at *
      obtain ⟨x0, x1, x2⟩ := kk
      go_wp2_with fail
      go_quiet ((go_at_call 31; exact Calls.quiet_of_same (mix_any _ _)))
      go_wp2
      go_roundw
      case rel =>
        exact ⟨k + 1, by omega, by go_num, by rw [HS.out]; rfl, (hbel.alloc hbel.size _).trans ⟨rfl, rfl, rfl, Nat.le_refl _, fun _ _ => rfl⟩⟩
      case measure => simp [intOf]; omega
    · have hk' : k = n := by omega
      subst hk'
      have hks := Hn.out
      rw [List.take_of_length_le (by omega)]
      have hc1 := hc.below hbel
      have hr1 := hr.below hbel
      obtain ⟨ag, m, capB, ss, hlook, hown, hset, HC, hm⟩ := look_cases hc1 ks hN
      have hl := hc1.map.look hc1.nd (fpOf ks)
      rw [hlook] at hl
      have hbx := cell_of_block hc1.box 0
      have HC1 : Hid (Cache wr bc bm base st) := hc1
      have HR1 : Hid (Reads wr a ks) := hr1
      have HR0 : Hid (a = none → k = 0) := h0
      have HO : Hid (wr.ownsRow base 29 1 (.slice ag m capB) m (ss.map ptr)) := hown
      have HS : Hid (∀ s ∈ ss, SetAt wr base s ∧ 0 ≤ s.n ∧ s.n ≤ 1048576) := hset
      have HLk : Hid (lookV (mapOf st) (fpOf ks) = .slice ag m capB) := hlook
      clear hc hr hN hlt hks hc1 hr1 h0 hown hset hlook
      obtain ⟨F, hF⟩ : ∃ F, fpOf ks = F := ⟨_, rfl⟩
      rw [hF] at hl ⊢
      have HF : Hid (fpOf ks = F) := hF
      clear hF
      go_wp2_with fail
      go_loopw [37] (fun i w2 => ∃ k q : Nat, k ≤ m ∧ i = .int .i64 k ∧ w2 = wr.drewN q ∧ ∀ s ∈ ss.take k, s.keys ≠ ks) (fun i _ => m - (intOf i).toNat)
      case atStart => exact ⟨0, 0, Nat.zero_le _, rfl, rfl, by simp⟩
      case round =>
        obtain ⟨i, q, hi, rfl, rfl, hno⟩ := hrel
        have HNo : Hid (∀ s ∈ ss.take i, s.keys ≠ ks) := hno
        clear hno
        have hsl : Hid (ss.length = m) := show ss.length = m by have := HO.out.1; simpa using this
        by_cases hlt : i < m
        · obtain ⟨s, hsi⟩ : ∃ s, ss[i]? = some s := ⟨_, List.getElem?_eq_getElem (by rw [hsl.out]; exact hlt)⟩
          obtain ⟨g, cap', hag, _⟩ := HO.out.form (by omega)
          cases hag
          have hp : wr.cell? ⟨g, i, none⟩ = some (.pointer (some ⟨s.b, 0, none⟩)) := by
            have := HO.out.cells (g := g) rfl i (ptr s) (by simp [hsi])
            have hadd : (⟨g, 0, none⟩ : Addr).add i = ⟨g, i, none⟩ := by unfold Addr.add; split <;> simp_all
            rw [hadd] at this
            exact this
          obtain ⟨hsa, hn0, hn1⟩ := HS.out s (List.mem_of_getElem? hsi)
          have hsb := hsa.1
          obtain ⟨_, hsl2, a2, cap2, sm, hblk, hrow2, hsm, hsm2⟩ := hsa
          have c0 := cell_of_block (w := wr) hblk 0
          have c2 := cell_of_block (w := wr) hblk 2
          have f2 := free_of_block (w := wr) hblk 2
          simp only [List.getElem?_toArray, List.getElem?_cons_zero, List.getElem?_cons_succ] at c0 c2
          have HB : Hid (wr.heap[s.b]? = some (.cells #[.slice a2 s.keys.length cap2, .int .u64 (fpOf s.keys), .int .i64 s.n, .map (some sm)] 60 (0, 0))) := hblk
          have HR2 : Hid (Reads (wr.drewN q) a2 s.keys) := reads_of_own hrow2
          have HSI : Hid (ss[i]? = some s) := hsi
          clear hblk hrow2 hsm hsm2 hsi
          by_cases hq : s.keys = ks
          · have HQ : Hid (decide (s.keys = ks) = true) := by simp [Hid, hq]
            have HK : Hid (s.keys = ks) := hq
            clear hq
            go_wp2_with (first | (go_at_call 32; refine (equalFn_any a2 a _ _ _ _ s.keys ks _ rfl Hn HR2.out (by exact HR1.out) hsl2 hn).mono ?_; rintro e w3 ⟨rfl, q2, rfl⟩; rw [HQ.out]))
            go_ret
            have hc2 : Cache (wr.drewN (q + q2)) bc bm base st := HC1.out.keep (Nat.le_refl _) (fun _ _ _ => rfl)
            rcases HC.out with ⟨j, B, hB, hfp, hss, hv⟩ | ⟨_, hss, _⟩
            · have hsi : B.sets[i]? = some s := by rw [← hss]; exact HSI.out
              refine ⟨s.b, _, rfl, cache_setN hc2 hB hsi (s.n + 1), Or.inl ⟨j, B, i, s, hB, hfp, hsi, HK.out, rfl, rfl⟩, ?_⟩
              exact ((Off.of_below hbel (fun k h1 h2 => by omega)).drewN _).setCell _ (fun _ => Or.inr hsb) _
            · have := HSI.out
              rw [hss] at this; simp at this
          · have HQ : Hid (decide (s.keys = ks) = false) := by simp [Hid, hq]
            have HK : Hid (¬ s.keys = ks) := hq
            clear hq
            go_wp2_with (first | (go_at_call 32; refine (equalFn_any a2 a _ _ _ _ s.keys ks _ rfl Hn HR2.out (by exact HR1.out) hsl2 hn).mono ?_; rintro e w3 ⟨rfl, q2, rfl⟩; rw [HQ.out]))
            go_roundw
            case rel =>
              refine ⟨i + 1, q + q2, by omega, by go_num, by simp, fun t ht => ?_⟩
              rw [List.take_add_one, HSI.out] at ht
              rcases List.mem_append.1 ht with ht | ht
              · exact HNo.out t ht
              · simp at ht; subst ht; exact HK.out
            case measure => simp [intOf]; omega
        · have him : i = m := by omega
          subst him
          have hmm := @run_makeMap Try.prog
          clear hlt hi hsl
          go_wp2_with (first | (go_at_call 33; refine (clone_any a _ _ ks _ Hn (by exact HR1.out) hn HR0.out).mono ?_; rintro e w3 ⟨a', cap', rfl, hown3, hb3⟩))
          obtain ⟨w4, hw4⟩ : ∃ w4, w4 = (w3.alloc (.map #[] 0)).alloc (.cells #[.slice a' k cap', .int .u64 F, .int .i64 1, .map (some w3.heap.size)] 60) := ⟨_, rfl⟩
          rw [← hw4]
          have hB3 : Below wr.heap.size wr w3 := ⟨hb3.os, hb3.tape, hb3.output, hb3.size, hb3.block⟩
          have hB4 : Below wr.heap.size wr w4 := by rw [hw4]; exact below_alloc' (below_alloc' hB3 _) _
          have hs4 : Hid (w4.heap.size = w3.heap.size + 2) := show w4.heap.size = _ by rw [hw4]; simp
          have HW4 : Hid (w4 = (w3.alloc (.map #[] 0)).alloc (.cells #[.slice a' k cap', .int .u64 F, .int .i64 1, .map (some w3.heap.size)] 60)) := hw4
          clear hw4
          have hbcl : bc < wr.heap.size := lt_of_blk HC1.out.box
          have hx4 : w4.cell? ⟨bc, 0, none⟩ = some (.map (some bm)) := (hB4.cell hbcl).trans hbx
          have hlk : Hid (∀ x : World, Below wr.heap.size wr x → (Instr.lookup 50 (.map (some bm)) (.int .u64 F) false).run Try.prog x = .ok (.slice ag i capB) x) := fun x hx => by
            rw [(HC1.out.below hx).map.look (HC1.out).nd F, ← HF.out, HLk.out]
          have l1 := hlk.out w4.drew hB4.drew
          have l2 := hlk.out ((w4.alloc (.cells #[.pointer (some ⟨w3.heap.size + 1, 0, none⟩)] 29)).drew) (below_alloc' hB4 _).drew
          have hO5 : Hid (((w4.alloc (.cells #[.pointer (some ⟨w3.heap.size + 1, 0, none⟩)] 29)).drew).ownsRow base 29 1 (.slice ag i capB) i (ss.map ptr)) := own_below HO.out (below_alloc' hB4 _).drew
          obtain ⟨i0, hi0, hz0, hz1, hz2⟩ := info_parts Try.info29
          have hb4s := hB4.size
          have hbase : base ≤ wr.heap.size := HC1.out.lsz
          have HO3 : Hid (w3.ownsRow wr.heap.size 56 3 (.slice a' k cap') k (flat ks)) := hown3
          clear hl hbx hmm hown3 hB3
          go_region_held3 (fun w' => w'.cell? ⟨bc, 0, none⟩ = some (.map (some bm))) (first | assumption | go_keep)
            ((refine step_append_lies _ (by rfl) _ _ _ (by rfl) base 29 i0 _ 1 8 Try.underlying28 hi0 hz0 hz1 hz2 rfl (by omega) (.slice ag i capB) i (ss.map ptr) (by rfl) hO5.out ⟨w4.heap.size, 0, none⟩ 1 1 [.pointer (some ⟨w3.heap.size + 1, 0, none⟩)] (by rfl) (by rfl) (World.news_of_block (cs := #[.pointer (some ⟨w3.heap.size + 1, 0, none⟩)]) (t := 29) (fr := (0, 0)) (heap_alloc_new w4 _)) (by simp [Value.oneCell']) (by omega) (by unfold maxLen; omega) (by omega) (by simp; omega) (w4.heap.size + 1) (by simp) ?_; intro g cap1 w6 hown6 hg6 hat hlt6; obtain ⟨w7, st', hrun, hm7, hg7, hp, hx6, hx7⟩ := push_mid HC1.out HC.out (below_alloc' hB4 _).drew hg6 HO.out (.slice (some ⟨g, 0, none⟩) (i + 1) cap1) (w3.heap.size + 1); rw [HF.out] at hrun))
          all_goals
            clear l1 l2 hrun hx4 hx6 hx7
            have hpo : Cache w7 bc bm base st' ∧ Off (fun k => k = bm ∨ base ≤ k) (wr.drewN q) w7 := by
              have hsl : ss.length = i := by have := HO.out.1; simpa using this
              refine cache_push (w2 := wr.drewN q) (w3 := w3) (HC1.out.keep (Nat.le_refl _) (fun _ _ _ => rfl)) hb3 HO3.out Hn.out hn ?_ hg6 (by rw [hsl]; exact hown6) ?_ hm7 hg7 hp ?_
              · rw [HF.out, ← HW4.out]
                exact ((Below.refl _ _).alloc (by rw [hs4.out]; exact Nat.le_refl _) _).drew
              · rcases hat with hat | hat
                · exact Or.inl hat.symm
                · exact Or.inr ⟨g, rfl, by simp; omega⟩
              · intro k' hk'
                obtain ⟨h1, h2⟩ := HO.out.lt k' hk'
                rcases HO.out.2 with ⟨h3, _⟩ | ⟨g', cp, cur, h3, _, h4, _⟩
                · rw [h3] at hk'; cases hk'
                · rw [h3] at hk'; cases hk'
                  exact ⟨h1, h2, cur, h4⟩
            have hbge : w.heap.size ≤ w3.heap.size + 1 := by have h1 := hbel.size; have h2 := hb3.size; simp at h2; omega
            have hhe : HeldBy st ks (w3.heap.size + 1) w.heap.size st' := by
              have hsl : ss.length = i := by have := HO.out.1; simpa using this
              have hno : ∀ s ∈ ss, s.keys ≠ ks := by have := HNo.out; rwa [List.take_of_length_le (by omega)] at this
              rcases hp with ⟨j, B, hB, hfp, hss, hv, he⟩ | ⟨hnb, hss, hv, he⟩
              · exact Or.inr (Or.inl ⟨j, B, _, hB, hfp, by rw [← hss]; exact hno, hbge, he⟩)
              · exact Or.inr (Or.inr ⟨_, hnb, hbge, he⟩)
            clear hp hm7 hg7 hg6 hown6 hat
            obtain ⟨hpo1, hpo2⟩ := hpo
            have hoff : Off (fun k => k = bm ∨ base ≤ k) w w7 := ((Off.of_below hbel (fun k h1 h2 => by omega)).drewN q).trans hpo2 (fun _ _ h => h)
            clear hpo2 hb3 hB4 hb4s
            go_wp2
            go_ret
            exact ⟨w3.heap.size + 1, st', rfl, hpo1, hhe, hoff⟩

end Go.Proofs.Qxb6604108a
