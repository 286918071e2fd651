import Derived.Test.Qxb6604247aN3
namespace Go.Proofs.Qxb6604247a
open Go.RowKit
set_option linter.unusedVariables false
set_option linter.unusedSimpArgs false

set_option maxHeartbeats 1000000 in
theorem zznormal_any (aR : Option Addr) (n gR gL : Nat) (zs : List Int) (w : World) (Hn : Hid (zs.length = n)) (hrow : n = 0 ∨ (aR = some ⟨gR, 0, none⟩ ∧ CRow w gR gL n n zs)) (hn : n ≤ 131072) :
    Calls Try.prog 9 #[.slice aR n n] w fun e w' => NormR n gL zs w.heap.size e w' ∧ Below w.heap.size w w' := by
  have H := Hid.mk (normalRoute_any aR n gR gL zs w Hn hrow hn)
  clear hrow
  go_enter Try.func9, Try.ntmps9
  go_wp2_with fail
  refine H.out.mono ?_
  rintro e w1 ⟨ho, hb⟩
  have HO : Hid (NormR n gL zs w.heap.size e w1) := ho
  rcases ho with ⟨h1, rfl⟩ | ⟨m, g, cap, h1, h2, rfl, h3⟩
  · clear h1
    go_wp2_with fail
    go_ret
    exact ⟨HO.out, hb⟩
  · clear h1 h2 h3
    go_wp2_with fail
    go_ret
    exact ⟨HO.out, hb⟩

theorem neqPtrs (w : World) (g o : Nat) : (binOp .neq 29 (.pointer (some ⟨g, o, none⟩)) (.pointer (some ⟨g, o, none⟩))).run Try.prog w = .ok (.bool false) w := neqPtr_same w _

set_option maxHeartbeats 4000000 in
theorem law5_any (a : Option Addr) (n cap : Nat) (zs : List Int) (w : World) (Hn : Hid (zs.length = n)) (hr : NReads w a zs) (hmax : n ≤ 9223372036854775807) (h0 : a = none → n = 0) :
    Calls Try.prog 3 #[.slice a n cap] w fun e w' => e = .returned (.bool true) ∧ Below w.heap.size w w' := by
  have HR : Hid (NReads w a zs) := hr
  have H0 : Hid (a = none → n = 0) := h0
  clear hr h0
  go_enter Try.func3, Try.ntmps3
  go_wp2_with fail
  refine (bytes7_any a n cap w hmax).mono ?_
  rintro e w' ⟨⟨r, rfl⟩, hww⟩
  subst w'
  cases r with
  | false =>
    go_wp2_with fail
    go_ret
    exact ⟨rfl, Below.refl _ _⟩
  | true =>
    by_cases hn : n ≤ 131072
    · have hn' : ¬ (131072 : Int) < (n : Int) := by omega
      go_wp2_with fail
      refine (routesFrom_any a n cap zs w Hn HR.out hn H0.out).mono ?_
      rintro e w1 ⟨⟨aR, aL, rfl, hrow⟩, hb1⟩
      have HRow : Hid (n = 0 ∨ (aR = some ⟨w.heap.size + 1, 0, none⟩ ∧ aL = some ⟨w.heap.size, 0, none⟩ ∧ CRow w1 (w.heap.size + 1) w.heap.size n n zs)) := hrow
      have HNo := Hid.mk (zznormal_any aR n (w.heap.size + 1) w.heap.size zs w1 Hn (hrow.imp id (fun h => ⟨h.1, h.2.2⟩)) hn)
      clear hrow
      go_wp2_with fail
      refine HNo.out.mono ?_
      rintro e w2 ⟨ho, hb2⟩
      have HB2 : Hid (Below w.heap.size w w2) := hb1.trans (hb2.mono hb1.size)
      clear HNo hb1 hb2
      have hel := eqlNil 24 31 Try.underlying24
      rcases ho with ⟨rfl, rfl⟩ | ⟨m, g, capg, hnp, hm, rfl, hown⟩
      · go_wp2_with fail
        go_ret
        exact ⟨rfl, HB2.out⟩
      · clear hel
        obtain ⟨rfl, rfl, _⟩ : aR = some ⟨w.heap.size + 1, 0, none⟩ ∧ aL = some ⟨w.heap.size, 0, none⟩ ∧ CRow w1 (w.heap.size + 1) w.heap.size n n zs := by
          rcases HRow.out with h | h
          · omega
          · exact h
        have HM : Hid ((gTo zs n).length = m) := hm
        have HO : Hid (w2.ownsRow w1.heap.size 31 2 (.slice (some ⟨g, 0, none⟩) m capg) m (flat2 w.heap.size zs (gTo zs n))) := hown
        have hml : m ≤ n := by rw [← hm]; exact gTo_length zs n
        obtain ⟨gz, off, z0, rfl, hgz, hz0, hcz⟩ := (HR.out.below HB2.out).at (k := 0) (by rw [Hn.out]; omega)
        have HZ0 : Hid (zAt zs 0 = z0) := zAt_eq hz0
        have hcz' : w2.cell? ⟨gz, off, none⟩ = some (.int .i64 z0) := hcz
        have hn0 : ((n : Int) == 0) = false := by simp; omega
        clear hm hown hz0 hcz
        go_wp2_with fail
        go_loop [6, 7] (fun lv iv => ∃ p : Nat, p + 1 ≤ n ∧ iv = .int .i64 ((p : Int) + 1) ∧ lv = .int .i64 (least zs p)) (fun _ iv => n - (intOf iv).toNat)
        case atStart => exact ⟨0, by omega, by go_num, by rw [← HZ0.out]; rfl⟩
        case round =>
          obtain ⟨p, hp, rfl, rfl⟩ := hrel
          by_cases hlt : p + 1 < n
          · obtain ⟨gz2, off2, x, hgo, _, hx, hcx⟩ := (HR.out.below HB2.out).at (k := p + 1) (by rw [Hn.out]; omega)
            cases hgo
            have HX : Hid (zAt zs (p + 1) = x) := zAt_eq hx
            obtain ⟨lv, hlv⟩ : ∃ lv, least zs p = lv := ⟨_, rfl⟩
            rw [hlv]
            have HLv : Hid (least zs p = lv) := hlv
            have hlt1 : (p : Int) + 1 < (n : Int) := by omega
            clear hx hlv
            by_cases hxl : x < lv
            · go_wp2_with fail
              go_round
              case rel => exact ⟨p + 1, by omega, by go_num, by rw [least, HX.out, HLv.out, if_pos hxl]⟩
              case measure => simp [intOf]; omega
            · go_wp2_with fail
              go_round
              case rel => exact ⟨p + 1, by omega, by go_num, by rw [least, HX.out, HLv.out, if_neg hxl]⟩
              case measure => simp [intOf]; omega
          · have hpe : p + 1 = n := by omega
            obtain ⟨lv, hlv⟩ : ∃ lv, least zs p = lv := ⟨_, rfl⟩
            rw [hlv]
            have hG : gTo zs n = sel zs lv n := by rw [← hlv, ← hpe]; rfl
            have HG : Hid (gTo zs n = sel zs lv n) := hG
            have hlt1 : ¬ (p : Int) + 1 < (n : Int) := by omega
            clear hlv hG hpe
            go_wp2_with fail
            go_loopw [8, 9] (fun jv iv wx => ∃ k jn q : Nat, k ≤ n ∧ iv = .int .i64 k ∧ (sel zs lv k).length = jn ∧ jv = .int .i64 jn ∧ wx = w2.drewN q) (fun _ iv _ => n - (intOf iv).toNat)
            case atStart => exact ⟨0, 0, 0, by omega, rfl, rfl, rfl, rfl⟩
            case round =>
              obtain ⟨k, jn, q, hk, rfl, hjn, rfl, rfl⟩ := hrel
              have HJ : Hid ((sel zs lv k).length = jn) := hjn
              clear hjn
              by_cases hkl : k < n
              · obtain ⟨gz2, off2, x, hgo, _, hx, hcx⟩ := (HR.out.below HB2.out).at (k := k) (by rw [Hn.out]; omega)
                cases hgo
                have HX : Hid (zAt zs k = x) := zAt_eq hx
                have hkl1 : (k : Int) < (n : Int) := by omega
                have hk0 : (0 : Int) ≤ (k : Int) := by omega
                clear hx
                by_cases hxl : x = lv
                · have hat : (gTo zs n)[jn]? = some k := by
                    rw [HG.out, ← HJ.out]; exact sel_at hkl (by rw [HX.out, hxl])
                  have hjm : jn < m := by rw [← HM.out]; exact (List.getElem?_eq_some_iff.1 hat).1
                  obtain ⟨cg0, cg1⟩ := row_cells HO.out hat
                  rw [HX.out, hxl] at cg1
                  have HXl : Hid (zAt zs k = lv) := by rw [HX.out, hxl]; exact rfl
                  subst hxl
                  have hj0 : (0 : Int) ≤ (jn : Int) := by omega
                  have hj1 : (jn : Int) < (m : Int) := by omega
                  have hnq := fun w' => neqPtrs w' w.heap.size (k * 5)
                  clear hat
                  go_wp2_with fail
                  go_quiet (fail)
                  go_wp2_with fail
                  go_roundw
                  case rel => exact ⟨k + 1, jn + 1, q + nq, by omega, by go_num, by rw [sel_succ, if_pos HXl.out, List.length_append, HJ.out]; rfl, by go_num, by simp⟩
                  case measure => simp [intOf]; omega
                · have HXl : Hid (¬ zAt zs k = lv) := by rw [HX.out]; exact hxl
                  have hxb : (x != lv) = true := by simp [hxl]
                  clear hxl
                  go_wp2_with fail
                  go_roundw
                  case rel => exact ⟨k + 1, jn, q, by omega, by go_num, by rw [sel_succ, if_neg HXl.out, List.append_nil, HJ.out], by go_num, rfl⟩
                  case measure => simp [intOf]; omega
              · have hke : k = n := by omega
                have hjm : jn = m := by rw [← HJ.out, ← HM.out, HG.out, hke]
                subst hjm
                have hkl1 : ¬ (k : Int) < (n : Int) := by omega
                clear hke
                go_wp2_with fail
                go_ret
                exact ⟨by simp, HB2.out.trans ⟨rfl, rfl, rfl, Nat.le_refl _, fun _ _ => rfl⟩⟩
    · have hn' : (131072 : Int) < (n : Int) := by omega
      go_wp2_with fail
      go_ret
      exact ⟨rfl, Below.refl _ _⟩

end Go.Proofs.Qxb6604247a
