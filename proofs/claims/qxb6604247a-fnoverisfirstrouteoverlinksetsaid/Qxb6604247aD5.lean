import Derived.Test.Qxb6604247aD4
namespace Go.Proofs.Qxb6604247a
open Go.RowKit
set_option linter.unusedVariables false
set_option linter.unusedSimpArgs false

theorem OverR.exact {zs : List Int} {bs : List Nat} {e : Ending} {b j : Nat} {t : Int} (hl : bs.length = zs.length) (hk : Links zs bs) (h : OverR bs (some b) e) (hb : bs[j]? = some b) (hj : zs[j]? = some t) (hno : ∀ p, p < j → zs[p]? ≠ some t) : e = .returned (.int .i64 (j : Nat)) := by
  obtain ⟨i, rfl, hi, hij, _⟩ := h.first hb
  have hil : i < zs.length := by rw [← hl]; exact (List.getElem?_eq_some_iff.1 hi).1
  have hz : zs[i]? = some zs[i] := List.getElem?_eq_getElem hil
  have := (hk i j zs[i] t b b hz hj hi hb).2 rfl
  rw [this] at hz
  have : ¬ i < j := fun h => hno i h hz
  have : i = j := by omega
  rw [this]

set_option maxHeartbeats 2000000 in
theorem law7_any (a : Option Addr) (n cap : Nat) (zs : List Int) (t : Int) (w : World) (Hn : Hid (zs.length = n)) (hr : NReads w a zs) (hmax : n ≤ 9223372036854775807) (h0 : a = none → n = 0) :
    Calls Try.prog 4 #[.slice a n cap, .int .i64 t] w fun e w' => e = .returned (.bool true) ∧ Below w.heap.size w w' := by
  have HR : Hid (NReads w a zs) := hr
  have H0 : Hid (a = none → n = 0) := h0
  clear hr h0
  go_enter Try.func4, Try.ntmps4
  go_wp2_with fail
  refine (bytes10_any a n cap t w hmax).mono ?_
  rintro e w' ⟨⟨r, rfl⟩, hww⟩
  subst w'
  cases r with
  | false =>
    go_wp2_with fail
    go_ret
    exact ⟨rfl, Below.refl _ _⟩
  | true =>
    by_cases hn : n ≤ 4096
    · have hn' : ¬ (4096 : Int) < (n : Int) := by omega
      go_wp2_with fail
      refine (routesOver_any a n cap zs w Hn HR.out hn H0.out).mono ?_
      rintro e w1 ⟨hR, hb1⟩
      obtain ⟨a1, bs, rfl, hrts, ha1⟩ := hR.rts
      have HRt : Hid (Rts w1 a1 w.heap.size n zs bs) := hrts
      clear hR hrts ha1
      obtain ⟨wz, hwz⟩ : ∃ wz, wz = w1.alloc (.cells #[.string { data := #[] }, .int .u32 0, .bool false, .int .i64 (-1), .int .i64 0] 35) := ⟨_, rfl⟩
      have hbz : Below w1.heap.size w1 wz := by rw [hwz]; exact (Below.refl _ _).alloc (Nat.le_refl _) _
      have hblkz : IsBlk wz w1.heap.size := by rw [hwz]; exact ⟨_, _, heap_alloc_new w1 _⟩
      have HRz : Hid (Rts wz a1 w.heap.size n zs bs) := HRt.out.below hbz
      have HBz : Hid (Below w.heap.size w wz) := hb1.trans (hbz.mono hb1.size)
      have HIz : Hid (IsBlk wz w1.heap.size) := hblkz
      have HNew : Hid (∀ b ∈ bs, b ≠ w1.heap.size) := fun b hb => by have := (HRt.out.blk b hb).lt; omega
      go_wp2_with fail
      rw [← hwz]
      clear hwz hblkz
      go_loop [6, 7] (fun sv jv => ∃ jn : Nat, jn ≤ n ∧ jv = .int .i64 jn ∧ sv = .pointer (some ⟨w1.heap.size, 0, none⟩) ∧ (∀ p, p < jn → zs[p]? ≠ some t)) (fun _ jv => n - (intOf jv).toNat)
      case atStart => exact ⟨0, Nat.zero_le _, rfl, rfl, fun p hp => by omega⟩
      case round =>
        obtain ⟨jn, hjk, rfl, rfl, hno⟩ := hrel
        have HNo : Hid (∀ p, p < jn → zs[p]? ≠ some t) := hno
        clear hno
        by_cases hjl : jn < n
        · obtain ⟨g, off, y, rfl, hg, hz, hcell⟩ := (HR.out.below HBz.out).at (k := jn) (by rw [Hn.out]; exact hjl)
          have HY : Hid (zs[jn]? = some y) := hz
          clear hz
          by_cases hyt : y = t
          · obtain ⟨rfl, hrow⟩ : a1 = some ⟨w.heap.size, 0, none⟩ ∧ RRow wz w.heap.size n bs := by
              rcases HRz.out.row with h | h
              · omega
              · exact h
            obtain ⟨b, hb⟩ : ∃ b, bs[jn]? = some b := ⟨_, List.getElem?_eq_getElem (by rw [HRz.out.len]; exact hjl)⟩
            have cb := (hrow.cells hb).1
            have HB : Hid (bs[jn]? = some b) := hb
            have hyb : (y == t) = true := by simp [hyt]
            have HYt : Hid (zs[jn]? = some t) := by rw [← hyt]; exact HY.out
            clear hb hrow hyt
            go_wp2_with fail
            refine (destOver_any _ n n wz).mono ?_
            rintro e w2 ⟨⟨d, p, rfl, hd, hp⟩, hb2⟩
            have HRt2 : Hid (Rts w2 _ w.heap.size n zs bs) := HRz.out.below hb2
            have hov : Calls Try.prog 12 #[.pointer (some ⟨d, 0, none⟩), .pointer (some ⟨b, 0, none⟩)] w2 fun e w' => OverR bs (some b) e ∧ Below w2.heap.size w2 w' := HRt2.out.over hd hp hn (Below.refl _ _) (some b) (fun c hc => by cases hc; exact HRt2.out.blk b (List.mem_of_getElem? HB.out))
            have HOv := Hid.mk hov
            have HB2 : Hid (Below w.heap.size w w2) := HBz.out.trans (hb2.mono HBz.out.size)
            clear hd hp hov hb2 cb hcell hyb
            go_wp2_with fail
            refine HOv.out.mono ?_
            rintro e w3 ⟨ho, hb3⟩
            have he := ho.exact (HRt2.out.len.trans Hn.out.symm) HRt2.out.links HB.out HYt.out HNo.out
            subst he
            have HB3 : Hid (Below w.heap.size w w3) := HB2.out.trans (hb3.mono HB2.out.size)
            clear ho hb3
            go_wp2_with fail
            go_loop [9, 10] (fun wv iv => ∃ (m : Nat) (v : Int), m ≤ n ∧ iv = .int .i64 ((m : Int) - 1) ∧ wv = .int .i64 v ∧ (m ≤ jn → v = jn)) (fun _ iv => (intOf iv + 1).toNat)
            case atStart => exact ⟨n, -1, Nat.le_refl _, rfl, rfl, fun h => by omega⟩
            case round =>
              obtain ⟨m, v, hm, rfl, rfl, hv⟩ := hrel
              have HV : Hid (m ≤ jn → v = jn) := hv
              clear hv
              cases m with
              | zero =>
                have hve := HV.out (Nat.zero_le _)
                subst hve
                rw [show (((0 : Nat) : Int) - 1) = -1 by omega]
                go_wp2_with fail
                go_ret
                exact ⟨by simp, HB3.out⟩
              | succ m =>
                rw [show (((m + 1 : Nat) : Int) - 1) = (m : Int) by omega]
                obtain ⟨g3, off3, x, hx3, _, hzx, hcx⟩ := (HR.out.below HB3.out).at (k := m) (by rw [Hn.out]; omega)
                cases hx3
                have HX : Hid (zs[m]? = some x) := hzx
                have hm1 : m < n := by omega
                have hm2 : (0 : Int) ≤ (m : Int) := by omega
                clear hzx
                by_cases hxt : x = t
                · have HXt : Hid (x = t) := hxt
                  have hxb : (x == t) = true := by simp [hxt]
                  clear hxt
                  go_wp2_with fail
                  go_round
                  case rel =>
                    refine ⟨m, m, by omega, by go_num, by go_num, fun h => ?_⟩
                    have : ¬ m < jn := fun h => HNo.out m h (by rw [← HXt.out]; exact HX.out)
                    omega
                  case measure => simp [intOf]
                · have HXt : Hid (¬ x = t) := hxt
                  have hxb : (x == t) = false := by simp [hxt]
                  clear hxt
                  go_wp2_with fail
                  go_round
                  case rel =>
                    refine ⟨m, v, by omega, by go_num, by go_num, fun h => HV.out ?_⟩
                    have : m ≠ jn := fun e => by
                      have h1 := HX.out
                      rw [e, HYt.out] at h1
                      exact HXt.out (Option.some.inj h1).symm
                    omega
                  case measure => simp [intOf]
          · have HYt : Hid (¬ y = t) := hyt
            have hyb : (y == t) = false := by simp [hyt]
            clear hyt
            go_wp2_with fail
            go_round
            case rel =>
              refine ⟨jn + 1, by omega, by go_num, rfl, fun p hp => ?_⟩
              rcases Nat.lt_succ_iff_lt_or_eq.1 hp with h | rfl
              · exact HNo.out p h
              · rw [HY.out]; exact fun e => HYt.out (Option.some.inj e)
            case measure => simp [intOf]; omega
        · have hje : jn = n := by omega
          subst hje
          go_wp2_with fail
          refine (destOver_any _ jn jn wz).mono ?_
          rintro e w2 ⟨⟨d, p, rfl, hd, hp⟩, hb2⟩
          have HRt2 : Hid (Rts w2 _ w.heap.size jn zs bs) := HRz.out.below hb2
          have hov : Calls Try.prog 12 #[.pointer (some ⟨d, 0, none⟩), .pointer (some ⟨w1.heap.size, 0, none⟩)] w2 fun e w' => OverR bs (some w1.heap.size) e ∧ Below w2.heap.size w2 w' := HRt2.out.over hd hp hn (Below.refl _ _) (some w1.heap.size) (fun c hc => by cases hc; exact HIz.out.below hb2)
          have HOv := Hid.mk hov
          have HB2 : Hid (Below w.heap.size w w2) := HBz.out.trans (hb2.mono HBz.out.size)
          clear hd hp hov hb2
          go_wp2_with fail
          refine HOv.out.mono ?_
          rintro e w3 ⟨ho, hb3⟩
          have he : e = .returned (.int .i64 (-1)) := by
            rcases ho with ⟨i, b, _, h1, h2, _⟩ | ⟨h, _⟩
            · exact absurd (Option.some.inj h2).symm (HNew.out b (List.mem_of_getElem? h1))
            · exact h
          subst he
          have HB3 : Hid (Below w.heap.size w w3) := HB2.out.trans (hb3.mono HB2.out.size)
          clear ho hb3
          go_wp2_with fail
          go_loop [9, 10] (fun wv iv => ∃ (m : Nat), m ≤ jn ∧ iv = .int .i64 ((m : Int) - 1) ∧ wv = .int .i64 (-1)) (fun _ iv => (intOf iv + 1).toNat)
          case atStart => exact ⟨jn, Nat.le_refl _, rfl, rfl⟩
          case round =>
            obtain ⟨m, hm, rfl, rfl⟩ := hrel
            cases m with
            | zero =>
              rw [show (((0 : Nat) : Int) - 1) = -1 by omega]
              go_wp2_with fail
              go_ret
              exact ⟨by simp, HB3.out⟩
            | succ m =>
              rw [show (((m + 1 : Nat) : Int) - 1) = (m : Int) by omega]
              obtain ⟨g3, off3, x, rfl, _, hzx, hcx⟩ := (HR.out.below HB3.out).at (k := m) (by rw [Hn.out]; omega)
              have hxb : (x == t) = false := by
                have := HNo.out m (by omega)
                simp; intro e; exact this (by rw [hzx, e])
              have hm1 : m < jn := by omega
              have hm2 : (0 : Int) ≤ (m : Int) := by omega
              clear hzx
              go_wp2_with fail
              go_round
              case rel => exact ⟨m, by omega, by go_num, by go_num⟩
              case measure => simp [intOf]
    · have hn' : (4096 : Int) < (n : Int) := by omega
      go_wp2_with fail
      go_ret
      exact ⟨rfl, Below.refl _ _⟩

end Go.Proofs.Qxb6604247a
