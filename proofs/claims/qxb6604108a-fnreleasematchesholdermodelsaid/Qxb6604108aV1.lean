import Derived.Test.Qxb6604108aW2
import Derived.Test.Qxb6604108aW4
namespace Go.Proofs.Qxb6604108a
open Go.RowKit
set_option linter.unusedVariables false
set_option linter.unusedSimpArgs false

/-- What a reader of a slice of lists of keys is told. -/
def LReads (w : World) (a : Option Addr) (ls : List (List Key)) : Prop :=
  ∀ i, i < ls.length → ∃ g off, a = some ⟨g, off, none⟩ ∧ g < w.heap.size ∧ ∀ j l, ls[j]? = some l → ∃ a' cap', w.cell? ⟨g, off + j, none⟩ = some (.slice a' l.length cap') ∧ Reads w a' l ∧ (a' = none → l.length = 0) ∧ l.length ≤ 9223372036854775807

theorem LReads.below {w w' : World} {a : Option Addr} {ls : List (List Key)} (h : LReads w a ls) (hb : Below w.heap.size w w') : LReads w' a ls := by
  intro i hi
  obtain ⟨g, off, ha, hg, hc⟩ := h i hi
  refine ⟨g, off, ha, Nat.lt_of_lt_of_le hg hb.size, fun j l hl => ?_⟩
  obtain ⟨a', cap', h1, h2, h3, h4⟩ := hc j l hl
  exact ⟨a', cap', (hb.cell hg).trans h1, h2.below hb, h3, h4⟩

/-- It returns a bool, whichever. -/
def RetB (e : Ending) : Prop := ∃ r, e = .returned (.bool r)
theorem retB_mk (r : Bool) : RetB (.returned (.bool r)) := ⟨r, rfl⟩

/-- The one fact of a round. -/
theorem LReads.at {w : World} {a : Option Addr} {ls : List (List Key)} (h : LReads w a ls) {k : Nat} (hk : k < ls.length) :
    ∃ g off l a' cap', a = some ⟨g, off, none⟩ ∧ g < w.heap.size ∧ ls[k]? = some l ∧ w.cell? ⟨g, off + k, none⟩ = some (.slice a' l.length cap') ∧ Reads w a' l ∧ (a' = none → l.length = 0) ∧ l.length ≤ 9223372036854775807 := by
  obtain ⟨g, off, ha, hg, hc⟩ := h k hk
  obtain ⟨a', cap', h1, h2, h3, h4⟩ := hc k _ (List.getElem?_eq_getElem hk)
  exact ⟨g, off, _, a', cap', ha, hg, List.getElem?_eq_getElem hk, h1, h2, h3, h4⟩

set_option maxHeartbeats 1000000 in
theorem bytes28_any (a : Option Addr) (n cap : Nat) (ls : List (List Key)) (w : World) (Hn : Hid (ls.length = n)) (hr : LReads w a ls) (hn : n ≤ 9223372036854775807) :
    Calls Try.prog 28 #[.slice a n cap] w fun e w' => RetB e ∧ w' = w := by
  by_cases h : n ≤ 1048576
  · have h' : ¬ (1048576 : Int) < (n : Int) := by omega
    go_enter Try.func28, Try.ntmps28
    go_wp2_with fail
    go_loop [3, 4] (fun z i => ∃ k t : Nat, k ≤ n ∧ t ≤ 1048576 ∧ i = .int .i64 k ∧ z = .int .i64 t) (fun _ i => n - (intOf i).toNat)
    case atStart => exact ⟨0, n, Nat.zero_le _, h, rfl, by simp⟩
    case round =>
      obtain ⟨k, t, hk, ht, rfl, rfl⟩ := hrel
      by_cases hlt : k < n
      · obtain ⟨g, off, l, a', cap', rfl, hg, hl, hc, _, _, hmx⟩ := hr.at (k := k) (by rw [Hn.out]; exact hlt)
        generalize l.length = m at *
        by_cases hm : (1048576 : Int) < (m : Int)
        · clear hr
          go_wp2_with fail
          go_ret
          exact ⟨retB_mk _, rfl⟩
        · by_cases hs : (1048576 : Int) < (t : Int) + (m : Int)
          · clear hr
            go_wp2_with fail
            go_ret
            exact ⟨retB_mk _, rfl⟩
          · clear hr
            go_wp2_with fail
            go_round
            case rel => exact ⟨k + 1, t + m, by omega, by omega, by go_num, by go_num⟩
            case measure => simp [intOf]; omega
      · clear hr
        go_wp2_with fail
        go_ret
        exact ⟨retB_mk _, rfl⟩
  · have h' : (1048576 : Int) < (n : Int) := by omega
    clear hr
    go_enter Try.func28, Try.ntmps28
    go_wp2_with fail
    go_ret
    exact ⟨retB_mk _, rfl⟩

set_option maxHeartbeats 1000000 in
theorem bytes7_any (a : Option Addr) (n cap : Nat) (ls : List (List Key)) (w : World) (Hn : Hid (ls.length = n)) (hr : LReads w a ls) (hn : n ≤ 9223372036854775807) :
    Calls Try.prog 7 #[.slice a n cap] w fun e w' => RetB e ∧ w' = w := by
  by_cases h : n ≤ 1048576
  · have h' : ¬ (1048576 : Int) < (n : Int) := by omega
    go_enter Try.func7, Try.ntmps7
    go_wp2_with fail
    go_loop [3, 4] (fun z i => ∃ k t : Nat, k ≤ n ∧ t ≤ 1048576 ∧ i = .int .i64 k ∧ z = .int .i64 t) (fun _ i => n - (intOf i).toNat)
    case atStart => exact ⟨0, n, Nat.zero_le _, h, rfl, by simp⟩
    case round =>
      obtain ⟨k, t, hk, ht, rfl, rfl⟩ := hrel
      by_cases hlt : k < n
      · obtain ⟨g, off, l, a', cap', rfl, hg, hl, hc, _, _, hmx⟩ := hr.at (k := k) (by rw [Hn.out]; exact hlt)
        generalize l.length = m at *
        by_cases hm : (1048576 : Int) < (m : Int)
        · clear hr
          go_wp2_with fail
          go_ret
          exact ⟨retB_mk _, rfl⟩
        · by_cases hs : (1048576 : Int) < (t : Int) + (m : Int)
          · clear hr
            go_wp2_with fail
            go_ret
            exact ⟨retB_mk _, rfl⟩
          · clear hr
            go_wp2_with fail
            go_round
            case rel => exact ⟨k + 1, t + m, by omega, by omega, by go_num, by go_num⟩
            case measure => simp [intOf]; omega
      · clear hr
        go_wp2_with fail
        go_ret
        exact ⟨retB_mk _, rfl⟩
  · have h' : (1048576 : Int) < (n : Int) := by omega
    clear hr
    go_enter Try.func7, Try.ntmps7
    go_wp2_with fail
    go_ret
    exact ⟨retB_mk _, rfl⟩

/-- 'listsFit': where it says yes, the lists are few and short. -/
def FitB (n : Nat) (ls : List (List Key)) (e : Ending) : Prop := ∃ r, e = .returned (.bool r) ∧ (r = true → n ≤ 4096 ∧ ∀ l ∈ ls, l.length ≤ 65536)
theorem fitB_no (n : Nat) (ls : List (List Key)) : FitB n ls (.returned (.bool false)) := ⟨false, rfl, fun h => by cases h⟩
theorem fitB_yes {n : Nat} {ls : List (List Key)} (h1 : n ≤ 4096) (h2 : ∀ l ∈ ls, l.length ≤ 65536) : FitB n ls (.returned (.bool true)) := ⟨true, rfl, fun _ => ⟨h1, h2⟩⟩

set_option maxHeartbeats 1000000 in
theorem listsFit_any (a : Option Addr) (n cap : Nat) (x : Int) (ls : List (List Key)) (w : World) (Hn : Hid (ls.length = n)) (hr : LReads w a ls) (hn : n ≤ 9223372036854775807) (hx0 : 0 ≤ x) (hx1 : x ≤ 1048576) :
    Calls Try.prog 8 #[.slice a n cap, .int .i64 x] w fun e w' => FitB n ls e ∧ w' = w := by
  by_cases h : n ≤ 4096
  · have h' : ¬ (4096 : Int) < (n : Int) := by omega
    by_cases h2 : (1048576 : Int) < x + 24 * (n : Int)
    · clear hr
      go_enter Try.func8, Try.ntmps8
      go_wp2_with fail
      go_ret
      exact ⟨fitB_no _ _, rfl⟩
    · go_enter Try.func8, Try.ntmps8
      go_wp2_with fail
      go_loop [5, 6] (fun z i => ∃ k t : Nat, k ≤ n ∧ t ≤ 1048576 ∧ i = .int .i64 k ∧ z = .int .i64 t ∧ ∀ l ∈ ls.take k, l.length ≤ 65536) (fun _ i => n - (intOf i).toNat)
      case atStart => exact ⟨0, (x + 24 * (n : Int)).toNat, Nat.zero_le _, by omega, rfl, by go_num, by simp⟩
      case round =>
        obtain ⟨k, t, hk, ht, rfl, rfl, hall⟩ := hrel
        have HA : Hid (∀ l ∈ ls.take k, l.length ≤ 65536) := hall
        clear hall
        by_cases hlt : k < n
        · obtain ⟨g, off, l, a', cap', rfl, hg, hl, hc, _, _, hmx⟩ := hr.at (k := k) (by rw [Hn.out]; exact hlt)
          have HL : Hid (ls[k]? = some l) := hl
          obtain ⟨m, hm⟩ : ∃ m, l.length = m := ⟨_, rfl⟩
          rw [hm] at hc hmx
          have HM : Hid (l.length = m) := hm
          clear hl hm
          by_cases hm : (65536 : Int) < (m : Int)
          · clear hr
            go_wp2_with fail
            go_ret
            exact ⟨fitB_no _ _, rfl⟩
          · by_cases hs : (1048576 : Int) < (t : Int) + 24 * (m : Int)
            · clear hr
              go_wp2_with fail
              go_ret
              exact ⟨fitB_no _ _, rfl⟩
            · clear hr
              go_wp2_with fail
              go_round
              case rel =>
                refine ⟨k + 1, t + 24 * m, by omega, by omega, by go_num, by go_num, fun q hq => ?_⟩
                rw [List.take_add_one, HL.out] at hq
                rcases List.mem_append.1 hq with hq | hq
                · exact HA.out q hq
                · simp at hq; subst hq; rw [HM.out]; omega
              case measure => simp [intOf]; omega
        · clear hr
          go_wp2_with fail
          go_ret
          refine ⟨fitB_yes h ?_, rfl⟩
          have := HA.out
          rwa [List.take_of_length_le (by rw [Hn.out]; omega)] at this
  · have h' : (4096 : Int) < (n : Int) := by omega
    clear hr
    go_enter Try.func8, Try.ntmps8
    go_wp2_with fail
    go_ret
    exact ⟨fitB_no _ _, rfl⟩

end Go.Proofs.Qxb6604108a
