import Derived.Test.Qxb6604108aShape
namespace Go.Proofs.Qxb6604108a
open Go.RowKit
set_option linter.unusedVariables false
set_option linter.unusedSimpArgs false

/-- A handle's facts for the walk, at place j. -/
theorem PReads.at {w : World} {a : Option Addr} {L : List Nat} (h : PReads w a L) {j : Nat} (hj : j < L.length) : ∃ g off b, a = some ⟨g, off, none⟩ ∧ L[j]? = some b ∧ w.cell? ⟨g, off + j, none⟩ = some (.pointer (some ⟨b, 0, none⟩)) := by
  obtain ⟨g, off, ha, _, hc⟩ := h j hj
  exact ⟨g, off, _, ha, List.getElem?_eq_getElem hj, (hc j _ (List.getElem?_eq_getElem hj)).1⟩

set_option maxRecDepth 100000 in
set_option maxHeartbeats 4000000 in
theorem shape_any (bc bm base : Nat) (st : List Bucket) (w : World) (hc : Cache w bc bm base st) (a : Option Addr) (n cap : Nat) (L : List Nat) (Hn : Hid (L.length = n)) (hp : PReads w a L) (hbal : Bal st L) (hn : n ≤ 4096) (hN : ∀ B ∈ st, B.sets.length ≤ 1048576 ∧ ∀ s ∈ B.sets, 0 ≤ s.n ∧ s.n ≤ 1048576) :
    Calls Try.prog 18 #[.pointer (some ⟨bc, 0, none⟩), .slice a n cap] w fun e w' => e = .returned (.bool true) ∧ ∃ q, w' = w.drewN q := by
  have HC : Hid (Cache w bc bm base st) := hc
  have HB : Hid (Bal st L) := hbal
  have HNN : Hid (∀ B ∈ st, B.sets.length ≤ 1048576 ∧ ∀ s ∈ B.sets, 0 ≤ s.n ∧ s.n ≤ 1048576) := hN
  have HP : Hid (PReads w a L) := hp
  have HH : Hid (∀ b ∈ L, Handle w base st b) := hbal.handle hc
  have HHold : Hid (∀ b ∈ L, ∀ q, Calls Try.prog 17 #[.pointer (some ⟨bc, 0, none⟩), .pointer (some ⟨b, 0, none⟩)] (w.drewN q) fun e w' => e = .returned (.bool true) ∧ ∃ p, w' = (w.drewN q).drewN p) := fun b hb q => by
    obtain ⟨s, hs, rfl, hsa⟩ := HH.out b hb
    have := zzheld_any bc bm base st (w.drewN q) (hc.drewN q) s hsa hN
    rw [inSt_true.2 (List.mem_map.2 ⟨s, hs, rfl⟩)] at this
    exact this
  have HFp : Hid (∀ b ∈ L, ∀ q, Calls Try.prog 21 #[.pointer (some ⟨b, 0, none⟩)] (w.drewN q) fun e w' => e = .returned (.int .u64 (fpAt w b)) ∧ w' = w.drewN q) := fun b hb q =>
    fingerprint_any b (w.drewN q) _ (HH.out b hb).fp
  clear hc hbal hN hp
  go_enter Try.func18, Try.ntmps18
  go_wp2_with fail
  go_loopw [5] (fun i wr => ∃ k q : Nat, k ≤ n ∧ i = .int .i64 k ∧ wr = w.drewN q) (fun i _ => n - (intOf i).toNat)
  case atStart => exact ⟨0, 0, Nat.zero_le _, rfl, rfl⟩
  case round =>
    obtain ⟨k, q, hk, rfl, rfl⟩ := hrel
    by_cases hlt : k < n
    · obtain ⟨g, off, b, rfl, hb, hcell⟩ := HP.out.at (j := k) (by rw [Hn.out]; exact hlt)
      have HK := Hid.mk (HHold.out b (List.mem_of_getElem? hb) q)
      clear hb
      go_wp2_with (first | (go_at_call 17; refine HK.out.mono ?_; rintro e w4 ⟨rfl, p, hw4⟩; subst w4))
      go_roundw
      case rel => exact ⟨k + 1, q + p, by omega, by go_num, by simp⟩
      case measure => simp [intOf]; omega
    · go_wp2_with fail
      clear hlt hk
      go_loopw [6, 7] (fun d i wr => ∃ k c q : Nat, k ≤ n ∧ c ≤ k ∧ i = .int .i64 k ∧ d = .int .i64 c ∧ (ded ((L.take k).map (fpAt w))).length = c ∧ wr = w.drewN q) (fun _ i _ => n - (intOf i).toNat)
      case atStart => exact ⟨0, 0, q, Nat.zero_le _, Nat.le_refl _, rfl, rfl, by simp [ded], rfl⟩
      case round =>
        obtain ⟨i, c, q1, hi, hci, rfl, rfl, hded, rfl⟩ := hrel
        have HD : Hid ((ded ((L.take i).map (fpAt w))).length = c) := hded
        clear hded
        by_cases hlt : i < n
        · obtain ⟨g, off, x, rfl, hx, hcell⟩ := HP.out.at (j := i) (by rw [Hn.out]; exact hlt)
          have HX : Hid (L[i]? = some x) := hx
          have HFx := Hid.mk (HFp.out x (List.mem_of_getElem? hx))
          clear hx
          go_wp2_with (first | (go_at_call 21; refine (HFx.out _).mono ?_; rintro e w4 ⟨rfl, hw4⟩; subst w4))
          go_loop [9, 10] (fun fo j => ∃ p : Nat, p ≤ i ∧ j = .int .i64 p ∧ fo = .bool true ∧ ∀ (q y : Nat), q < p → L[q]? = some y → fpAt w y ≠ fpAt w x) (fun _ j => i - (intOf j).toNat)
          case atStart => exact ⟨0, Nat.zero_le _, rfl, rfl, fun q y h => by omega⟩
          case round =>
            obtain ⟨p, hp, rfl, rfl, hno⟩ := hrel
            have HNo : Hid (∀ (q y : Nat), q < p → L[q]? = some y → fpAt w y ≠ fpAt w x) := hno
            clear hno
            by_cases hpi : p < i
            · obtain ⟨g', off', y, hgo, hy, hcy⟩ := HP.out.at (j := p) (by rw [Hn.out]; omega)
              cases hgo
              have HY : Hid (L[p]? = some y) := hy
              have HFy := Hid.mk (HFp.out y (List.mem_of_getElem? hy))
              have hpn : (p : Int) < (n : Int) := by omega
              clear hy
              by_cases hq : fpAt w y = fpAt w x
              · have HQ : Hid (fpAt w y = fpAt w x) := hq
                have hqb : (fpAt w y == fpAt w x) = true := by simp [hq]
                clear hq
                go_wp2_with (first | (go_at_call 21; refine (HFy.out _).mono ?_; rintro e w4 ⟨rfl, hw4⟩; subst w4))
                go_roundw
                case rel => exact ⟨i + 1, c, q1, by omega, by omega, by go_num, rfl, by rw [ded_map_old _ L i HX.out ⟨p, y, hpi, HY.out, HQ.out⟩, HD.out], rfl⟩
                case measure => simp [intOf]; omega
              · have HQ : Hid (fpAt w y ≠ fpAt w x) := hq
                have hqb : (fpAt w y == fpAt w x) = false := by simp [hq]
                clear hq
                go_wp2_with (first | (go_at_call 21; refine (HFy.out _).mono ?_; rintro e w4 ⟨rfl, hw4⟩; subst w4))
                go_round
                case rel =>
                  refine ⟨p + 1, by omega, by go_num, rfl, fun q z hq hz => ?_⟩
                  rcases Nat.lt_succ_iff_lt_or_eq.1 hq with h | rfl
                  · exact HNo.out q z h hz
                  · rw [HY.out] at hz; cases hz; exact HQ.out
                case measure => simp [intOf]; omega
            · have hpe : p = i := by omega
              subst hpe
              go_wp2_with fail
              go_loopw [11, 12] (fun nn j wr => ∃ jn m q : Nat, p ≤ jn ∧ jn ≤ n ∧ m ≤ jn ∧ j = .int .i64 jn ∧ nn = .int .i64 m ∧ (ded (seg (fpAt w) (fpAt w x) L p (jn - p))).length = m ∧ wr = w.drewN q) (fun _ j _ => n - (intOf j).toNat)
              case atStart => exact ⟨p, 0, q1, Nat.le_refl _, by omega, Nat.zero_le _, rfl, rfl, by simp [seg, ded], rfl⟩
              case round =>
                obtain ⟨jn, m, q2, hpj, hjn, hmj, rfl, rfl, hseg, rfl⟩ := hrel
                have HSeg : Hid ((ded (seg (fpAt w) (fpAt w x) L p (jn - p))).length = m) := hseg
                clear hseg
                by_cases hjl : jn < n
                · obtain ⟨g', off', y, hgo, hy, hcy⟩ := HP.out.at (j := jn) (by rw [Hn.out]; exact hjl)
                  cases hgo
                  have HY : Hid (L[p + (jn - p)]? = some y) := by rw [show p + (jn - p) = jn by omega]; exact hy
                  have HFy := Hid.mk (HFp.out y (List.mem_of_getElem? hy))
                  have HYb : Hid (IsBlk w y) := (HH.out y (List.mem_of_getElem? hy)).blk
                  have hjn0 : (0 : Int) ≤ (jn : Int) := by omega
                  have hjn1 : (jn : Int) < (n : Int) := by omega
                  clear hy
                  by_cases hq : fpAt w y = fpAt w x
                  · have HQ : Hid (fpAt w y = fpAt w x) := hq
                    have hqb : (fpAt w y != fpAt w x) = false := by simp [hq]
                    clear hq
                    go_wp2_with (first | (go_at_call 21; refine (HFy.out _).mono ?_; rintro e w4 ⟨rfl, hw4⟩; subst w4))
                    go_loopw [13, 14] (fun du mm wr => ∃ e q : Nat, p ≤ e ∧ e ≤ jn ∧ mm = .int .i64 e ∧ du = .bool false ∧ (∀ r, p ≤ r → r < e → L[r]? ≠ some y) ∧ wr = w.drewN q) (fun _ mm _ => jn - (intOf mm).toNat)
                    case atStart => exact ⟨p, q2, Nat.le_refl _, hpj, rfl, rfl, fun r h1 h2 => by omega, rfl⟩
                    case round =>
                      obtain ⟨e, q3, hpe, hej, rfl, rfl, hnod, rfl⟩ := hrel
                      have HNod : Hid (∀ r, p ≤ r → r < e → L[r]? ≠ some y) := hnod
                      clear hnod hqb
                      by_cases hel : e < jn
                      · obtain ⟨g', off', z, hgo, hz, hcz⟩ := HP.out.at (j := e) (by rw [Hn.out]; omega)
                        cases hgo
                        have HZ : Hid (L[e]? = some z) := hz
                        have he0 : (0 : Int) ≤ (e : Int) := by omega
                        have he1 : (e : Int) < (n : Int) := by omega
                        have heq : ∀ q, (binOp .eql 29 (.pointer (some ⟨z, 0, none⟩)) (.pointer (some ⟨y, 0, none⟩))).run Try.prog (w.drewN q) = .ok (.bool (z == y)) (w.drewN q) := fun q => eqlPtr (w := w.drewN q) (HH.out z (List.mem_of_getElem? hz)).blk HYb.out
                        clear hz
                        by_cases hzy : z = y
                        · have HZY : Hid (z = y) := hzy
                          rw [show (z == y) = true by simp [hzy]] at heq
                          clear hzy
                          go_wp2_with fail
                          go_quiet (fail)
                          go_wp2_with fail
                          go_roundw
                          case rel =>
                            refine ⟨jn + 1, m, q3 + nq, by omega, by omega, by omega, by go_num, rfl, ?_, by simp⟩
                            rw [show jn + 1 - p = (jn - p) + 1 by omega, ded_seg_old _ _ L p (jn - p) HY.out HQ.out ⟨e - p, by omega, by rw [show p + (e - p) = e by omega, ← HZY.out]; exact HZ.out⟩, HSeg.out]
                          case measure => simp [intOf]; omega
                        · have HZY : Hid (z ≠ y) := hzy
                          rw [show (z == y) = false by simp [hzy]] at heq
                          clear hzy
                          go_wp2_with fail
                          go_quiet (fail)
                          go_wp2_with fail
                          go_roundw
                          case rel =>
                            refine ⟨e + 1, q3 + nq, by omega, by omega, by go_num, rfl, fun r h1 h2 => ?_, by simp⟩
                            rcases Nat.lt_succ_iff_lt_or_eq.1 h2 with h | rfl
                            · exact HNod.out r h1 h
                            · rw [HZ.out]; exact fun h => HZY.out (Option.some.inj h)
                          case measure => simp [intOf]; omega
                      · have hee : e = jn := by omega
                        go_wp2_with fail
                        go_roundw
                        case rel =>
                          refine ⟨jn + 1, m + 1, q3, by omega, by omega, by omega, by go_num, by go_num, ?_, rfl⟩
                          rw [show jn + 1 - p = (jn - p) + 1 by omega, ded_seg_new _ _ L p (jn - p) HY.out HQ.out (fun r hr => HNod.out (p + r) (by omega) (by omega)), HSeg.out]
                        case measure => simp [intOf]; omega
                  · have HQ : Hid (fpAt w y ≠ fpAt w x) := hq
                    have hqb : (fpAt w y != fpAt w x) = true := by simp [hq]
                    clear hq
                    go_wp2_with (first | (go_at_call 21; refine (HFy.out _).mono ?_; rintro e w4 ⟨rfl, hw4⟩; subst w4))
                    go_roundw
                    case rel =>
                      refine ⟨jn + 1, m, q2, by omega, by omega, by omega, by go_num, rfl, ?_, rfl⟩
                      rw [show jn + 1 - p = (jn - p) + 1 by omega, ded_seg_skip _ _ L p (jn - p) HY.out HQ.out, HSeg.out]
                    case measure => simp [intOf]; omega
                · obtain ⟨jb, B, hB, hBf, hlen⟩ := shape_bucket HC.out HB.out HX.out (fun q y h1 h2 => HNo.out q y h1 h2)
                  have hjn' : jn = n := by omega
                  have hm : B.sets.length = m := by
                    have h1 := HSeg.out
                    rw [hjn'] at h1
                    rw [← hlen, Hn.out]; exact h1
                  have HBL := Hid.mk (bucketLen_at (HC.out.drewN q2) hB)
                  rw [hBf, hm] at HBL
                  have hmm : (((m : Nat) : Int) != (m : Int)) = false := by simp
                  clear hB hBf hlen hm hjn'
                  go_wp2_with (first | (go_at_call 23; refine HBL.out.mono ?_; rintro e w4 ⟨rfl, hw4⟩; subst w4))
                  go_roundw
                  case rel => exact ⟨p + 1, c + 1, q2, by omega, by omega, by go_num, by go_num, by rw [ded_map_new _ L p HX.out (fun q y h1 h2 => HNo.out q y h1 h2), HD.out], rfl⟩
                  case measure => simp [intOf]; omega
        · have hie : i = n := by omega
          have hall : c = st.length := by
            have h1 := shape_all HC.out HB.out
            have h2 := HD.out
            rw [List.take_of_length_le (by rw [Hn.out]; omega)] at h2
            omega
          subst hall
          clear hie
          go_wp2_with (first | (go_at_call 22; refine (fingerprints_any _ _ _ _ _ (HC.out.drewN _)).mono ?_; rintro e w4 ⟨rfl, hw4⟩; subst w4))
          go_ret
          exact ⟨by simp, q1, rfl⟩

end Go.Proofs.Qxb6604108a
