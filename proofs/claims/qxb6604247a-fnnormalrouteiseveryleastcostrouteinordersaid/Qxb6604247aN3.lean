import Derived.Test.Qxb6604247aN2
import Derived.Deep.RegionHeld3
namespace Go.Proofs.Qxb6604247a
open Go.RowKit
set_option linter.unusedVariables false
set_option linter.unusedSimpArgs false

/-- What 'normalRoute' hands back. -/
def NormR (n gL : Nat) (zs : List Int) (g0 : Nat) (e : Ending) (w' : World) : Prop :=
  (n = 0 ∧ e = .returned (.slice none 0 0)) ∨
  ∃ m g cap, 0 < n ∧ (gTo zs n).length = m ∧ e = .returned (.slice (some ⟨g, 0, none⟩) m cap) ∧ w'.ownsRow g0 31 2 (.slice (some ⟨g, 0, none⟩) m cap) m (flat2 gL zs (gTo zs n))

theorem own_below {w w' : World} {base e size : Nat} {v : Value} {n : Nat} {xs : List Value} (h : w.ownsRow base e size v n xs) (hb : Below w.heap.size w w') : w'.ownsRow base e size v n xs := by
  obtain ⟨q, h⟩ := h
  refine ⟨q, ?_⟩
  rcases h with h | ⟨g, cap', cur, hv, hg, hh, r⟩
  · exact Or.inl h
  · exact Or.inr ⟨g, cap', cur, hv, hg, (hb.block g (lt_of_blk hh)).trans hh, r⟩

/-- 'got[:0]'. -/
theorem own_zero {w : World} {base e size g m cap : Nat} {xs : List Value} (h : w.ownsRow base e size (.slice (some ⟨g, 0, none⟩) m cap) m xs) : w.ownsRow base e size (.slice (some ⟨g, 0, none⟩) 0 cap) 0 [] := by
  obtain ⟨q, h⟩ := h
  refine ⟨by simp, ?_⟩
  rcases h with ⟨h, _⟩ | ⟨g', cap', cur, hv, hg, hh, h1, h2, h3, h4⟩
  · cases h
  · cases hv
    exact Or.inr ⟨g, cap, cur, rfl, hg, hh, Nat.zero_le _, h2, h3, by simp⟩

/-- A new row of the call's own grew: what was there at first is as it was. -/
theorem below_grown {w0 w w1 : World} {row : Option Nat} (h : Below w0.heap.size w0 w) (hg : w.grownBy w1 row) (hr : ∀ j, row = some j → w0.heap.size ≤ j) : Below w0.heap.size w0 w1 :=
  h.grown hg h.size hr

set_option maxHeartbeats 4000000 in
theorem normalRoute_any (aR : Option Addr) (n gR gL : Nat) (zs : List Int) (w : World) (Hn : Hid (zs.length = n)) (hrow : n = 0 ∨ (aR = some ⟨gR, 0, none⟩ ∧ CRow w gR gL n n zs)) (hn : n ≤ 131072) :
    Calls Try.prog 17 #[.slice aR n n] w fun e w' => NormR n gL zs w.heap.size e w' ∧ Below w.heap.size w w' := by
  have HRo : Hid (n = 0 ∨ (aR = some ⟨gR, 0, none⟩ ∧ CRow w gR gL n n zs)) := hrow
  obtain ⟨i0, hi0, hz0, hz1, hz2⟩ := info_parts Try.info31
  clear hrow
  go_enter Try.func17, Try.ntmps17
  go_wp2_with fail
  go_loopw [3, 8] (fun gv iv wr => ∃ k : Nat, k ≤ n ∧ iv = .int .i64 k ∧ Below w.heap.size w wr ∧ ((k = 0 ∧ gv = .slice none 0 0) ∨ ∃ p m g cap, k = p + 1 ∧ (gTo zs k).length = m ∧ gv = .slice (some ⟨g, 0, none⟩) m cap ∧ wr.ownsRow w.heap.size 31 2 (.slice (some ⟨g, 0, none⟩) m cap) m (flat2 gL zs (gTo zs k)))) (fun _ iv _ => n - (intOf iv).toNat)
  case atStart => exact ⟨0, Nat.zero_le _, rfl, Below.refl _ _, Or.inl ⟨rfl, rfl⟩⟩
  case round =>
    obtain ⟨k, hk, rfl, hbel, hgv⟩ := hrel
    have HBe : Hid (Below w.heap.size w wr) := hbel
    by_cases hlt : k < n
    · obtain ⟨rfl, hC⟩ : aR = some ⟨gR, 0, none⟩ ∧ CRow w gR gL n n zs := by
        rcases HRo.out with h | h
        · omega
        · exact h
      obtain ⟨z, hz⟩ : ∃ z, zs[k]? = some z := ⟨_, List.getElem?_eq_getElem (by rw [Hn.out]; exact hlt)⟩
      obtain ⟨c0, c1⟩ := (hC.keep (hbel.block gR hC.lt)).cells hlt hz
      have HZ : Hid (zAt zs k = z) := zAt_eq hz
      obtain ⟨wn, hwn⟩ : ∃ wn, wn = wr.alloc (.cells #[.pointer (some ⟨gL, k * 5, none⟩), .int .i64 z] 31) := ⟨_, rfl⟩
      have hbn : Below wr.heap.size wr wn := by rw [hwn]; exact (Below.refl _ _).alloc (Nat.le_refl _) _
      have n0 : wn.cell? ⟨wr.heap.size, 0, none⟩ = some (.pointer (some ⟨gL, k * 5, none⟩)) := by rw [hwn, cell_of_block (heap_alloc_new wr _)]; rfl
      have n1 : wn.cell? ⟨wr.heap.size, 1, none⟩ = some (.int .i64 z) := by rw [hwn, cell_of_block (heap_alloc_new wr _)]; rfl
      have HSz : Hid (w.heap.size ≤ wr.heap.size ∧ wn.heap.size = wr.heap.size + 1) := ⟨hbel.size, by rw [hwn]; simp⟩
      have HBn : Hid (Below w.heap.size w wn) := hbel.trans (hbn.mono hbel.size)
      clear hz hC hbel
      rcases hgv with ⟨rfl, rfl⟩ | ⟨p, m, g, cap, rfl, hm, rfl, hown⟩
      · go_wp2_with fail
        rw [← hwn]
        clear hwn c0 c1
        go_quiet (fail)
        go_wp2_with fail
        obtain ⟨wq, hwq⟩ : ∃ wq, wq = wn.drewN nq := ⟨_, rfl⟩
        rw [← hwq]
        have q0 : wq.cell? ⟨wr.heap.size, 0, none⟩ = some (.pointer (some ⟨gL, 0 * 5, none⟩)) := by rw [hwq]; exact n0
        have q1 : wq.cell? ⟨wr.heap.size, 1, none⟩ = some (.int .i64 z) := by rw [hwq]; exact n1
        have HSq : Hid (wq.heap.size = wr.heap.size + 1) := by rw [hwq]; exact HSz.out.2

        have hb5 : Below wn.heap.size wn ((wq.alloc (.cells #[(.pointer (some ⟨gL, 0 * 5, none⟩)), .int .i64 z] 31)).drew) := by rw [hwq]; exact (Below.alloc (⟨rfl, rfl, rfl, Nat.le_refl _, fun _ _ => rfl⟩ : Below wn.heap.size wn (wn.drewN nq)) (Nat.le_refl _) _).drew
        have HB5 : Hid (Below w.heap.size w ((wq.alloc (.cells #[(.pointer (some ⟨gL, 0 * 5, none⟩)), .int .i64 z] 31)).drew)) := HBn.out.trans (hb5.mono HBn.out.size)
        have hO5 : Hid (((wq.alloc (.cells #[(.pointer (some ⟨gL, 0 * 5, none⟩)), .int .i64 z] 31)).drew).ownsRow w.heap.size 31 2 (.slice none 0 0) 0 []) := World.ownsRow_nil _ _ _ _
        have HX0 : Hid (((wq.alloc (.cells #[(.pointer (some ⟨gL, 0 * 5, none⟩)), .int .i64 z] 31)).drew).cell? ⟨wr.heap.size, 0, none⟩ = some (.pointer (some ⟨gL, 0 * 5, none⟩))) := oldC q0 _
        have HX1 : Hid (((wq.alloc (.cells #[(.pointer (some ⟨gL, 0 * 5, none⟩)), .int .i64 z] 31)).drew).cell? ⟨wr.heap.size, 1, none⟩ = some (.int .i64 z)) := oldC q1 _
        have HXl : Hid (wr.heap.size < ((wq.alloc (.cells #[(.pointer (some ⟨gL, 0 * 5, none⟩)), .int .i64 z] 31)).drew).heap.size) := by have := HSq.out; show wr.heap.size < (wq.alloc _).heap.size; simp; omega
        have HXn : Hid (some wr.heap.size ≠ ((.slice none 0 0) : Value).ownBlock) := fun h => by cases h
        clear n0 n1 hwq hb5
        go_region_held3 (fun w' => w'.cell? ⟨wr.heap.size, 0, none⟩ = some (.pointer (some ⟨gL, 0 * 5, none⟩)) ∧ w'.cell? ⟨wr.heap.size, 1, none⟩ = some (.int .i64 z))
          (first | exact ⟨q0, q1⟩ | exact ⟨y0, y1⟩ | go_keep)
          ((refine step_append_lies _ (by rfl) _ _ _ (by rfl) w.heap.size 31 i0 _ 2 16 Try.underlying24 hi0 hz0 hz1 hz2 rfl (by omega) (.slice none 0 0) 0 [] (by rfl) hO5.out ⟨wq.heap.size, 0, none⟩ 1 1 [(.pointer (some ⟨gL, 0 * 5, none⟩)), .int .i64 z] (by rfl) (by rfl) (World.news_of_block (cs := #[(.pointer (some ⟨gL, 0 * 5, none⟩)), .int .i64 z]) (t := 31) (fr := (0, 0)) (heap_alloc_new wq _)) (by simp [Value.oneCell']) (by omega) (by unfold maxLen; omega) (by omega) (by have := HSq.out; have := HSz.out.1; simp; omega) (wq.heap.size + 1) (by simp) ?_; intro g1 cap1 w6 hown6 hg6 hat hlt6; have y0 := (hg6.cell_far ⟨wr.heap.size, 0, none⟩ HXl.out HXn.out).trans HX0.out; have y1 := (hg6.cell_far ⟨wr.heap.size, 1, none⟩ HXl.out HXn.out).trans HX1.out))
        all_goals
          go_wp2_with fail
          go_roundw
          case rel =>
            refine ⟨1, by omega, by go_num, HB5.out.grown hg6 HB5.out.size (fun j hj => by cases hj), Or.inr ⟨0, 1, g1, cap1, rfl, by rw [gTo_one]; rfl, rfl, ?_⟩⟩
            rw [gTo_one]
            have h := hown6
            rw [← HZ.out] at h
            exact h
          case measure => simp [intOf]; omega
      · have hmp : 0 < m := by rw [← hm]; exact gTo_pos zs p
        have hml : m ≤ p + 1 := by rw [← hm]; exact gTo_length zs (p + 1)
        have HM : Hid ((gTo zs (p + 1)).length = m) := hm
        have HOn : Hid (wn.ownsRow w.heap.size 31 2 (.slice (some ⟨g, 0, none⟩) m cap) m (flat2 gL zs (gTo zs (p + 1)))) := own_below hown hbn
        obtain ⟨x0, hx0⟩ : ∃ x0, (gTo zs (p + 1))[0]? = some x0 := ⟨_, List.getElem?_eq_getElem (by rw [hm]; exact hmp)⟩
        have g1 : wn.cell? ⟨g, 1, none⟩ = some (.int .i64 (least zs p)) := by
          have := (row_cells HOn.out hx0).2
          rw [(gTo_mem (List.mem_of_getElem? hx0)).1] at this
          exact this
        have HGl : Hid (g < wr.heap.size) := (hown.lt g rfl).2
        generalize hlv : least zs p = lv at *
        have HLv : Hid (least zs p = lv) := hlv
        clear hm hown hx0 hlv
        have hm0 : ((m : Int) == 0) = false := by simp; omega
        rcases Int.lt_trichotomy z lv with hzl | hzl | hzl
        · have HLt : Hid (z < lv) := hzl
          go_wp2_with fail
          rw [← hwn]
          clear hwn c0 c1
          go_quiet (fail)
          go_wp2_with fail
          obtain ⟨wq, hwq⟩ : ∃ wq, wq = wn.drewN nq := ⟨_, rfl⟩
          rw [← hwq]
          have q0 : wq.cell? ⟨wr.heap.size, 0, none⟩ = some (.pointer (some ⟨gL, (p + 1) * 5, none⟩)) := by rw [hwq]; exact n0
          have q1 : wq.cell? ⟨wr.heap.size, 1, none⟩ = some (.int .i64 z) := by rw [hwq]; exact n1
          have HSq : Hid (wq.heap.size = wr.heap.size + 1) := by rw [hwq]; exact HSz.out.2

          have hb5 : Below wn.heap.size wn ((wq.alloc (.cells #[(.pointer (some ⟨gL, (p + 1) * 5, none⟩)), .int .i64 z] 31)).drew) := by rw [hwq]; exact (Below.alloc (⟨rfl, rfl, rfl, Nat.le_refl _, fun _ _ => rfl⟩ : Below wn.heap.size wn (wn.drewN nq)) (Nat.le_refl _) _).drew
          have HB5 : Hid (Below w.heap.size w ((wq.alloc (.cells #[(.pointer (some ⟨gL, (p + 1) * 5, none⟩)), .int .i64 z] 31)).drew)) := HBn.out.trans (hb5.mono HBn.out.size)
          have hO5 : Hid (((wq.alloc (.cells #[(.pointer (some ⟨gL, (p + 1) * 5, none⟩)), .int .i64 z] 31)).drew).ownsRow w.heap.size 31 2 (.slice (some ⟨g, 0, none⟩) 0 cap) 0 []) := own_below (own_zero HOn.out) hb5
          have HX0 : Hid (((wq.alloc (.cells #[(.pointer (some ⟨gL, (p + 1) * 5, none⟩)), .int .i64 z] 31)).drew).cell? ⟨wr.heap.size, 0, none⟩ = some (.pointer (some ⟨gL, (p + 1) * 5, none⟩))) := oldC q0 _
          have HX1 : Hid (((wq.alloc (.cells #[(.pointer (some ⟨gL, (p + 1) * 5, none⟩)), .int .i64 z] 31)).drew).cell? ⟨wr.heap.size, 1, none⟩ = some (.int .i64 z)) := oldC q1 _
          have HXl : Hid (wr.heap.size < ((wq.alloc (.cells #[(.pointer (some ⟨gL, (p + 1) * 5, none⟩)), .int .i64 z] 31)).drew).heap.size) := by have := HSq.out; show wr.heap.size < (wq.alloc _).heap.size; simp; omega
          have HXn : Hid (some wr.heap.size ≠ ((.slice (some ⟨g, 0, none⟩) 0 cap) : Value).ownBlock) := fun h => by have := HGl.out; have h1 : wr.heap.size = g := Option.some.inj h; omega
          clear n0 n1 hwq hb5
          go_region_held3 (fun w' => w'.cell? ⟨wr.heap.size, 0, none⟩ = some (.pointer (some ⟨gL, (p + 1) * 5, none⟩)) ∧ w'.cell? ⟨wr.heap.size, 1, none⟩ = some (.int .i64 z))
            (first | exact ⟨q0, q1⟩ | exact ⟨y0, y1⟩ | go_keep)
            ((refine step_append_lies _ (by rfl) _ _ _ (by rfl) w.heap.size 31 i0 _ 2 16 Try.underlying24 hi0 hz0 hz1 hz2 rfl (by omega) (.slice (some ⟨g, 0, none⟩) 0 cap) 0 [] (by rfl) hO5.out ⟨wq.heap.size, 0, none⟩ 1 1 [(.pointer (some ⟨gL, (p + 1) * 5, none⟩)), .int .i64 z] (by rfl) (by rfl) (World.news_of_block (cs := #[(.pointer (some ⟨gL, (p + 1) * 5, none⟩)), .int .i64 z]) (t := 31) (fr := (0, 0)) (heap_alloc_new wq _)) (by simp [Value.oneCell']) (by omega) (by unfold maxLen; omega) (by omega) (by have := HSq.out; have := HSz.out.1; simp; omega) (wq.heap.size + 1) (by simp) ?_; intro g1 cap1 w6 hown6 hg6 hat hlt6; have y0 := (hg6.cell_far ⟨wr.heap.size, 0, none⟩ HXl.out HXn.out).trans HX0.out; have y1 := (hg6.cell_far ⟨wr.heap.size, 1, none⟩ HXl.out HXn.out).trans HX1.out))
          all_goals
            go_wp2_with fail
            go_roundw
            case rel =>
              have hgt : gTo zs (p + 1 + 1) = [p + 1] := gTo_lt (by rw [HZ.out, HLv.out]; exact HLt.out)
              refine ⟨p + 2, by omega, by go_num, HB5.out.grown hg6 HB5.out.size (fun j hj => by cases hj; exact (HOn.out.lt g rfl).1), Or.inr ⟨p + 1, 1, g1, cap1, rfl, by rw [hgt]; rfl, rfl, ?_⟩⟩
              rw [hgt]
              have h := hown6
              rw [← HZ.out] at h
              exact h
            case measure => simp [intOf]; omega
        · subst hzl
          go_wp2_with fail
          rw [← hwn]
          clear hwn c0 c1
          go_quiet (fail)
          go_wp2_with fail
          obtain ⟨wq, hwq⟩ : ∃ wq, wq = wn.drewN nq := ⟨_, rfl⟩
          rw [← hwq]
          have q0 : wq.cell? ⟨wr.heap.size, 0, none⟩ = some (.pointer (some ⟨gL, (p + 1) * 5, none⟩)) := by rw [hwq]; exact n0
          have q1 : wq.cell? ⟨wr.heap.size, 1, none⟩ = some (.int .i64 z) := by rw [hwq]; exact n1
          have qg : wq.cell? ⟨g, 1, none⟩ = some (.int .i64 z) := by rw [hwq]; exact g1
          have HSq : Hid (wq.heap.size = wr.heap.size + 1) := by rw [hwq]; exact HSz.out.2
          have hb5 : ∀ q, Below wn.heap.size wn ((wq.drewN q).alloc (.cells #[.pointer (some ⟨gL, (p + 1) * 5, none⟩), .int .i64 z] 31)) := fun q => by rw [hwq]; exact (Below.alloc (⟨rfl, rfl, rfl, Nat.le_refl _, fun _ _ => rfl⟩ : Below wn.heap.size wn ((wn.drewN nq).drewN q)) (Nat.le_refl _) _)
          have HB5 : Hid (∀ q, Below w.heap.size w ((wq.drewN q).alloc (.cells #[.pointer (some ⟨gL, (p + 1) * 5, none⟩), .int .i64 z] 31))) := fun q => HBn.out.trans ((hb5 q).mono HBn.out.size)
          have HO5 : Hid (∀ q, ((wq.drewN q).alloc (.cells #[.pointer (some ⟨gL, (p + 1) * 5, none⟩), .int .i64 z] 31)).ownsRow w.heap.size 31 2 (.slice (some ⟨g, 0, none⟩) m cap) m (flat2 gL zs (gTo zs (p + 1)))) := fun q => own_below HOn.out (hb5 q)
          clear n0 n1 g1 hwq hb5
          go_quiet (fail)
          go_wp2_with (at_builtin; refine wpList_append_lies _ rfl _ _ 24 rfl w.heap.size 31 i0 _ 2 16 Try.underlying24 hi0 hz0 hz1 hz2 rfl (by omega) _ m (flat2 gL zs (gTo zs (p + 1))) rfl (HO5.out _) ⟨wq.heap.size, 0, none⟩ 1 1 [.pointer (some ⟨gL, (p + 1) * 5, none⟩), .int .i64 z] rfl rfl (World.news_of_block (cs := #[.pointer (some ⟨gL, (p + 1) * 5, none⟩), .int .i64 z]) (t := 31) (fr := (0, 0)) (heap_alloc_new (wq.drewN _) _)) (by simp [Value.oneCell']) (by omega) (by unfold maxLen; omega) (by omega) (by have := HSq.out; have := HSz.out.1; simp; omega) (wq.heap.size + 1) (by simp) ?_; intro g1 cap1 w6 hown6 hg6 hat hlt6)
          go_roundw
          case rel =>
            have hgt : gTo zs (p + 1 + 1) = gTo zs (p + 1) ++ [p + 1] := gTo_eq (by rw [HZ.out, HLv.out])
            refine ⟨p + 2, by omega, by go_num, (HB5.out _).grown hg6 (HB5.out _).size (fun j hj => by cases hj; exact (HOn.out.lt g rfl).1), Or.inr ⟨p + 1, m + 1, g1, cap1, rfl, by rw [hgt, List.length_append, HM.out]; rfl, rfl, ?_⟩⟩
            rw [hgt, flat2_append]
            have h := hown6
            rw [← HZ.out] at h
            exact h
          case measure => simp [intOf]; omega
        · have HGt : Hid (lv < z) := hzl
          have hzl' : ¬ z < lv := by omega
          have hzl2 : (z == lv) = false := by simp; omega
          go_wp2_with fail
          rw [← hwn]
          clear hwn c0 c1
          go_quiet (fail)
          go_wp2_with fail
          go_quiet (fail)
          go_wp2_with fail
          go_roundw
          case rel =>
            refine ⟨p + 2, by omega, by go_num, ?_, Or.inr ⟨p + 1, m, g, cap, rfl, ?_, rfl, ?_⟩⟩
            · exact HBn.out.trans ⟨rfl, rfl, rfl, Nat.le_refl _, fun _ _ => rfl⟩
            · rw [gTo_gt (by rw [HZ.out, HLv.out]; exact HGt.out), HM.out]
            · rw [gTo_gt (by rw [HZ.out, HLv.out]; exact HGt.out)]
              exact own_below HOn.out ⟨rfl, rfl, rfl, Nat.le_refl _, fun _ _ => rfl⟩
          case measure => simp [intOf]; omega
    · have hkn : k = n := by omega
      subst hkn
      rcases hgv with ⟨rfl, rfl⟩ | ⟨p, m, g, cap, rfl, hm, rfl, hown⟩
      · go_wp2_with fail
        go_ret
        exact ⟨Or.inl ⟨rfl, rfl⟩, HBe.out⟩
      · have HO : Hid (wr.ownsRow w.heap.size 31 2 (.slice (some ⟨g, 0, none⟩) m cap) m (flat2 gL zs (gTo zs (p + 1)))) := hown
        have HM : Hid ((gTo zs (p + 1)).length = m) := hm
        clear hown hm
        go_wp2_with fail
        go_ret
        exact ⟨Or.inr ⟨m, g, cap, by omega, HM.out, rfl, HO.out⟩, HBe.out⟩

end Go.Proofs.Qxb6604247a
