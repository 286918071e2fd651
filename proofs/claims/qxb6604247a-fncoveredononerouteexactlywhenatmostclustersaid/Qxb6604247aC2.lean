import Derived.Test.Qxb6604247aC1
namespace Go.Proofs.Qxb6604247a
open Go.RowKit
set_option linter.unusedVariables false
set_option linter.unusedSimpArgs false

/-- An entry: its own statuses, and its cluster's. -/
def Entry (w : World) (d : Nat) (r cr : Value) : Prop := ∃ c, w.cell? ⟨d, 2, none⟩ = some r ∧ w.cell? ⟨d, 3, none⟩ = some (.pointer (some ⟨c, 0, none⟩)) ∧ w.cell? ⟨c, 2, none⟩ = some cr

set_option maxHeartbeats 400000 in
theorem covered_none (d : Nat) (a : Option Addr) (w : World) (h : w.cell? ⟨d, 2, none⟩ = some (.slice a 0 0)) :
    Calls Try.prog 15 #[.pointer (some ⟨d, 0, none⟩)] w fun e w' => e = .returned (.bool true) ∧ w' = w := by
  go_enter Try.func15, Try.ntmps15
  go_wp2
  refine wp_loop_rounds 1 ?_
  rw [rounds_succ]
  go_wp2
  go_ret
  exact ⟨rfl, rfl⟩

set_option maxHeartbeats 400000 in
theorem covered_one (d c br bc : Nat) (x y : Int) (w : World) (h : w.cell? ⟨d, 2, none⟩ = some (.slice (some ⟨br, 0, none⟩) 1 1)) (h2 : w.cell? ⟨d, 3, none⟩ = some (.pointer (some ⟨c, 0, none⟩))) (h3 : w.cell? ⟨c, 2, none⟩ = some (.slice (some ⟨bc, 0, none⟩) 1 1))
    (hx : w.cell? ⟨br, 0, none⟩ = some (.int .u8 x)) (hy : w.cell? ⟨bc, 0, none⟩ = some (.int .u8 y)) :
    Calls Try.prog 15 #[.pointer (some ⟨d, 0, none⟩)] w fun e w' => e = .returned (.bool (decide (x ≤ y))) ∧ w' = w := by
  by_cases hxy : x ≤ y
  · have hg : ¬ y < x := by omega
    have HD : Hid (decide (x ≤ y) = true) := decide_eq_true hxy
    clear hxy
    go_enter Try.func15, Try.ntmps15
    go_wp2
    refine wp_loop_rounds 2 ?_
    rw [rounds_succ]
    go_wp2
    rw [rounds_succ]
    go_wp2
    go_ret
    exact ⟨by rw [HD.out]; rfl, rfl⟩
  · have hg : y < x := by omega
    have HD : Hid (decide (x ≤ y) = false) := decide_eq_false hxy
    clear hxy
    go_enter Try.func15, Try.ntmps15
    go_wp2
    refine wp_loop_rounds 2 ?_
    rw [rounds_succ]
    go_wp2
    go_ret
    exact ⟨by rw [HD.out]; rfl, rfl⟩

theorem cellNew (w : World) (cs : Array Value) (t : TypeId) (o : Nat) : (w.alloc (.cells cs t)).cell? ⟨w.heap.size, o, none⟩ = cs[o]? := by
  have := heap_alloc_new w (.cells cs t)
  simp only [World.cell?, this]; rfl
theorem cellOld {w : World} {b o : Nat} {v : Value} (h : w.cell? ⟨b, o, none⟩ = some v) (x : Obj) : (w.alloc x).cell? ⟨b, o, none⟩ = some v := cell_later ((Below.refl _ _).alloc (Nat.le_refl _) x) h

theorem cellNewAt {w : World} {cs : Array Value} {t : TypeId} {o n : Nat} {v : Value} (hn : n = w.heap.size) (hv : cs[o]? = some v) : (w.alloc (.cells cs t)).cell? ⟨n, o, none⟩ = some v := by
  subst hn; rw [cellNew]; exact hv

theorem below_alloc' {a x : World} (h : Below a.heap.size a x) (o : Obj) : Below a.heap.size a (x.alloc o) := h.alloc h.size o

set_option maxHeartbeats 400000 in
theorem entry_nil (w : World) : Calls Try.prog 16 #[.slice none 0 0, .slice none 0 0] w fun e w' => ∃ d, e = .returned (.pointer (some ⟨d, 0, none⟩)) ∧ w'.cell? ⟨d, 2, none⟩ = some (.slice none 0 0) ∧ Below w.heap.size w w' := by
  go_enter Try.func16, Try.ntmps16
  go_wp2_with (first | (go_at_call 20; refine (toSt_nil _).mono ?_; rintro e w' ⟨rfl, hw⟩; subst w'))
  go_ret
  exact ⟨_, rfl, by simp, below_alloc' (below_alloc' (Below.refl _ _) _) _⟩

set_option maxHeartbeats 400000 in
theorem entry_empty (b0 b1 : Nat) (y : Int) (w : World) (hb : w.cell? ⟨b1, 0, none⟩ = some (.int .u8 y)) : Calls Try.prog 16 #[.slice (some ⟨b0, 0, none⟩) 0 0, .slice (some ⟨b1, 0, none⟩) 1 1] w fun e w' => ∃ d a, e = .returned (.pointer (some ⟨d, 0, none⟩)) ∧ w'.cell? ⟨d, 2, none⟩ = some (.slice a 0 0) ∧ Below w.heap.size w w' := by
  have hb1 := cellOld hb (.cells #[] 57)
  have HE := Hid.mk (toSt_empty b0 w)
  have HO := Hid.mk (toSt_one b1 y (w.alloc (.cells #[] 57)) hb1)
  clear hb1
  go_enter Try.func16, Try.ntmps16
  go_wp2_with fail
  refine HE.out.mono ?_
  rintro e w' ⟨rfl, hw⟩
  subst w'
  go_wp2_with fail
  refine HO.out.mono ?_
  rintro e w' ⟨rfl, hw⟩
  subst w'
  go_wp2_with fail
  go_ret
  exact ⟨w.heap.size + 1 + 1 + 1, some ⟨w.heap.size, 0, none⟩, rfl, cellNewAt (by simp) rfl, below_alloc' (below_alloc' (below_alloc' (below_alloc' (Below.refl _ _) _) _) _) _⟩

set_option maxHeartbeats 400000 in
theorem entry_one (b0 b1 : Nat) (x y : Int) (w : World) (ha : w.cell? ⟨b0, 0, none⟩ = some (.int .u8 x)) (hb : w.cell? ⟨b1, 0, none⟩ = some (.int .u8 y)) : Calls Try.prog 16 #[.slice (some ⟨b0, 0, none⟩) 1 1, .slice (some ⟨b1, 0, none⟩) 1 1] w fun e w' =>
    ∃ d c br bc, e = .returned (.pointer (some ⟨d, 0, none⟩)) ∧ w'.cell? ⟨d, 2, none⟩ = some (.slice (some ⟨br, 0, none⟩) 1 1) ∧ w'.cell? ⟨d, 3, none⟩ = some (.pointer (some ⟨c, 0, none⟩)) ∧ w'.cell? ⟨c, 2, none⟩ = some (.slice (some ⟨bc, 0, none⟩) 1 1) ∧ w'.cell? ⟨br, 0, none⟩ = some (.int .u8 x) ∧ w'.cell? ⟨bc, 0, none⟩ = some (.int .u8 y) ∧ Below w.heap.size w w' := by
  have hb1 := cellOld hb (.cells #[.int .u8 x] 57)
  have HE := Hid.mk (toSt_one b0 x w ha)
  have HO := Hid.mk (toSt_one b1 y (w.alloc (.cells #[.int .u8 x] 57)) hb1)
  clear hb1
  go_enter Try.func16, Try.ntmps16
  go_wp2_with fail
  refine HE.out.mono ?_
  rintro e w' ⟨rfl, hw⟩
  subst w'
  go_wp2_with fail
  refine HO.out.mono ?_
  rintro e w' ⟨rfl, hw⟩
  subst w'
  go_wp2_with fail
  go_ret
  exact ⟨w.heap.size + 1 + 1 + 1, w.heap.size + 1 + 1, w.heap.size, w.heap.size + 1, rfl, cellNewAt (by simp) rfl, cellNewAt (by simp) rfl, cellOld (cellNewAt (by simp) rfl) _, cellOld (cellOld (cellOld (cellNewAt rfl rfl) _) _) _, cellOld (cellOld (cellNewAt (by simp) rfl) _) _, below_alloc' (below_alloc' (below_alloc' (below_alloc' (Below.refl _ _) _) _) _) _⟩

set_option maxHeartbeats 1000000 in
theorem law6_any (x y : Int) (w : World) : Calls Try.prog 6 #[.int .u8 x, .int .u8 y] w fun e w' => e = .returned (.bool true) ∧ Below w.heap.size w w' := by
  go_enter Try.func6, Try.ntmps6
  go_wp2_with fail
  refine (entry_nil w).mono ?_
  rintro e w1 ⟨d1, rfl, hc1, hb1⟩
  go_wp2_with fail
  refine (covered_none d1 _ w1 hc1).mono ?_
  rintro e w' ⟨rfl, hw⟩
  subst w'
  clear hc1
  go_wp2_with fail
  refine (entry_empty (w1.heap.size) (w1.heap.size + 1) y _ (by simp)).mono ?_
  rintro e w2 ⟨d2, a2, rfl, hc2, hb2⟩
  have HB2 : Hid (Below w.heap.size w w2) := ((hb1.alloc hb1.size _).alloc (by have := hb1.size; simp; omega) _).trans (hb2.mono (by have := hb1.size; simp; omega))
  clear hb1 hb2
  go_wp2_with fail
  refine (covered_none d2 _ w2 hc2).mono ?_
  rintro e w' ⟨rfl, hw⟩
  subst w'
  clear hc2
  go_wp2_with fail
  refine (entry_one (w2.heap.size) (w2.heap.size + 1) x y _ (by simp) (by simp)).mono ?_
  rintro e w3 ⟨d3, c3, br, bc, rfl, k1, k2, k3, k4, k5, hb3⟩
  have hb2 := HB2.out.size
  have HB3 : Hid (Below w.heap.size w w3) := ((HB2.out.alloc HB2.out.size _).alloc (by simp; omega) _).trans (hb3.mono (by simp; omega))
  have HC := Hid.mk (covered_one d3 c3 br bc x y w3 k1 k2 k3 k4 k5)
  clear hb2 hb3 k1 k2 k3 k4 k5
  go_wp2_with fail
  refine HC.out.mono ?_
  rintro e w' ⟨rfl, hw⟩
  subst w'
  by_cases hxy : x ≤ y
  · rw [decide_eq_true hxy]
    go_wp2_with fail
    go_ret
    exact ⟨rfl, HB3.out⟩
  · rw [decide_eq_false hxy]
    have HD : Hid (decide (x ≤ y) = false) := decide_eq_false hxy
    go_wp2_with fail
    go_ret
    exact ⟨by simp [HD.out], HB3.out⟩

end Go.Proofs.Qxb6604247a
