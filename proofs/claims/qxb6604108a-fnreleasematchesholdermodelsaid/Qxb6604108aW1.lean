import Derived.Test.Qxb6604108aArr
namespace Go.Proofs.Qxb6604108a
open Go.RowKit

theorem kAt_ext {a b : List Key} (h : a.length = b.length) (hj : ∀ j, j < a.length → kAt a j = kAt b j) : a = b := by
  refine List.ext_getElem h fun i h1 h2 => ?_
  have := hj i h1
  simpa [kAt, List.getD, h1, h2] using this

theorem ret_bool {a b : Bool} (h : a = b) : Ending.returned (.bool a) = .returned (.bool b) := by rw [h]

set_option maxHeartbeats 400000 in
theorem equalKeys_any (a b : Option Addr) (n m ca cb : Nat) (ka kb : List Key) (w : World) (Hn : Hid (ka.length = n)) (Hm : Hid (kb.length = m)) (ha : Reads w a ka) (hb : Reads w b kb) (la : n ≤ 1048576) (lb : m ≤ 1048576) :
    Calls Try.prog 11 #[.slice a n ca, .slice b m cb] w fun e w' => e = .returned (.bool (decide (ka = kb))) ∧ ∃ n, w' = w.drewN n := by
  have hne := neq41
  by_cases hl : n = m
  · subst hl
    have hl' : ((n : Int) != (n : Int)) = false := by simp
    go_enter Try.func11, Try.ntmps11
    go_wp2
    go_loopw [5] (fun i wr => ∃ k q : Nat, k ≤ n ∧ i = .int .i64 k ∧ wr = w.drewN q ∧ ∀ j, j < k → kAt ka j = kAt kb j) (fun i _ => n - (intOf i).toNat)
    case atStart => exact ⟨0, 0, Nat.zero_le _, rfl, rfl, by omega⟩
    case round =>
      obtain ⟨k, q, hk, rfl, rfl, hj⟩ := hrel
      have HJ : Hid (∀ j, j < k → kAt ka j = kAt kb j) := hj
      clear hj
      by_cases hlt : k < n
      · obtain ⟨ba, oa, rfl, -, ca⟩ := ha k (by rw [Hn.out]; exact hlt)
        obtain ⟨bb, ob, rfl, -, cb⟩ := hb k (by rw [Hm.out]; exact hlt)
        obtain ⟨a0, a1, a2⟩ := ca k (by rw [Hn.out]; exact hlt)
        obtain ⟨b0, b1, b2⟩ := cb k (by rw [Hm.out]; exact hlt)
        clear ca cb ha hb
        by_cases hq : keyEq (kAt ka k) (kAt kb k) = true
        · have hq' := (keyEq_iff _ _).1 hq
          have HQ : Hid (kAt ka k = kAt kb k) := hq'
          clear hq'
          go_wp2
          go_quiet (fail)
          go_wp2
          go_roundw
          case rel =>
            refine ⟨k + 1, q + nq, by omega, by go_num, rfl, fun j hj => ?_⟩
            rcases Nat.lt_succ_iff_lt_or_eq.1 hj with h | rfl
            · exact HJ.out j h
            · exact HQ.out
          case measure => simp [intOf]; omega
        · have hq' : keyEq (kAt ka k) (kAt kb k) = false := by simpa using hq
          have HQ : Hid (¬ kAt ka k = kAt kb k) := fun h => hq ((keyEq_iff _ _).2 h)
          clear hq
          go_wp2
          go_quiet (fail)
          go_wp2
          go_ret
          refine ⟨ret_bool ?_, q + nq, by simp⟩
          symm; rw [decide_eq_false_iff_not]
          intro h
          exact HQ.out (by rw [h])
      · go_wp2
        go_ret
        refine ⟨ret_bool ?_, q, rfl⟩
        symm; rw [decide_eq_true_iff]
        have h1 := Hn.out
        have h2 := Hm.out
        exact kAt_ext (h1.trans h2.symm) (fun j hj => HJ.out j (by omega))
  · have hl' : ((n : Int) != (m : Int)) = true := by simp; omega
    go_enter Try.func11, Try.ntmps11
    go_wp2
    go_ret
    refine ⟨ret_bool ?_, 0, rfl⟩
    symm; rw [decide_eq_false_iff_not]
    rintro rfl
    exact hl (Hn.out.symm.trans Hm.out)

set_option maxHeartbeats 400000 in
theorem equalFn_any (a b : Option Addr) (n m ca cb : Nat) (ka kb : List Key) (w : World) (Hn : Hid (ka.length = n)) (Hm : Hid (kb.length = m)) (ha : Reads w a ka) (hb : Reads w b kb) (la : n ≤ 1048576) (lb : m ≤ 1048576) :
    Calls Try.prog 32 #[.slice a n ca, .slice b m cb] w fun e w' => e = .returned (.bool (decide (ka = kb))) ∧ ∃ n, w' = w.drewN n := by
  have hne := neq56
  by_cases hl : n = m
  · subst hl
    have hl' : ((n : Int) != (n : Int)) = false := by simp
    go_enter Try.func32, Try.ntmps32
    go_wp2
    go_loopw [13] (fun i wr => ∃ k q : Nat, k ≤ n ∧ i = .int .i64 k ∧ wr = w.drewN q ∧ ∀ j, j < k → kAt ka j = kAt kb j) (fun i _ => n - (intOf i).toNat)
    case atStart => exact ⟨0, 0, Nat.zero_le _, rfl, rfl, by omega⟩
    case round =>
      obtain ⟨k, q, hk, rfl, rfl, hj⟩ := hrel
      have HJ : Hid (∀ j, j < k → kAt ka j = kAt kb j) := hj
      clear hj
      by_cases hlt : k < n
      · obtain ⟨ba, oa, rfl, -, ca⟩ := ha k (by rw [Hn.out]; exact hlt)
        obtain ⟨bb, ob, rfl, -, cb⟩ := hb k (by rw [Hm.out]; exact hlt)
        obtain ⟨a0, a1, a2⟩ := ca k (by rw [Hn.out]; exact hlt)
        obtain ⟨b0, b1, b2⟩ := cb k (by rw [Hm.out]; exact hlt)
        clear ca cb ha hb
        by_cases hq : keyEq (kAt ka k) (kAt kb k) = true
        · have hq' := (keyEq_iff _ _).1 hq
          have HQ : Hid (kAt ka k = kAt kb k) := hq'
          clear hq'
          go_wp2
          go_quiet (fail)
          go_wp2
          go_roundw
          case rel =>
            refine ⟨k + 1, q + nq, by omega, by go_num, rfl, fun j hj => ?_⟩
            rcases Nat.lt_succ_iff_lt_or_eq.1 hj with h | rfl
            · exact HJ.out j h
            · exact HQ.out
          case measure => simp [intOf]; omega
        · have hq' : keyEq (kAt ka k) (kAt kb k) = false := by simpa using hq
          have HQ : Hid (¬ kAt ka k = kAt kb k) := fun h => hq ((keyEq_iff _ _).2 h)
          clear hq
          go_wp2
          go_quiet (fail)
          go_wp2
          go_ret
          refine ⟨ret_bool ?_, q + nq, by simp⟩
          symm; rw [decide_eq_false_iff_not]
          intro h
          exact HQ.out (by rw [h])
      · go_wp2
        go_ret
        refine ⟨ret_bool ?_, q, rfl⟩
        symm; rw [decide_eq_true_iff]
        have h1 := Hn.out
        have h2 := Hm.out
        exact kAt_ext (h1.trans h2.symm) (fun j hj => HJ.out j (by omega))
  · have hl' : ((n : Int) != (m : Int)) = true := by simp; omega
    go_enter Try.func32, Try.ntmps32
    go_wp2
    go_ret
    refine ⟨ret_bool ?_, 0, rfl⟩
    symm; rw [decide_eq_false_iff_not]
    rintro rfl
    exact hl (Hn.out.symm.trans Hm.out)

end Go.Proofs.Qxb6604108a
