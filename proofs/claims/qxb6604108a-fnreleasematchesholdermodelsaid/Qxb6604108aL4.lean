import Derived.Test.Qxb6604108aW7
import Derived.LaidEqlPtr
namespace Go.Proofs.Qxb6604108a
open Go.RowKit
set_option linter.unusedVariables false
set_option linter.unusedSimpArgs false

theorem SetAt.cells {w : World} {base : Nat} {s : KS} (h : SetAt w base s) : ∃ a cap sm, w.cell? ⟨s.b, 0, none⟩ = some (.slice a s.keys.length cap) ∧ w.cell? ⟨s.b, 1, none⟩ = some (.int .u64 (fpOf s.keys)) ∧ w.cell? ⟨s.b, 2, none⟩ = some (.int .i64 s.n) ∧
    w.cell? ⟨s.b, 3, none⟩ = some (.map (some sm)) ∧ w.heap[sm]? = some (.map #[] 0) ∧ Reads w a s.keys ∧ s.b < w.heap.size ∧ s.keys.length ≤ 1048576 := by
  obtain ⟨_, hl, a, cap, sm, e1, e2, e3, e4⟩ := h
  exact ⟨a, cap, sm, cell_of_block e1 0, cell_of_block e1 1, cell_of_block e1 2, cell_of_block e1 3, e4, reads_of_own e2, lt_of_blk e1, hl⟩

set_option maxHeartbeats 400000 in
theorem bytes19_any (a : Option Addr) (n cap : Nat) (w : World) (hn : n ≤ 9223372036854775807) :
    Calls Try.prog 19 #[.slice a n cap] w fun e w' => e = .returned (.bool (decide (n ≤ 1048576))) ∧ w' = w := by
  by_cases h : n ≤ 1048576
  · have h' : ¬ (1048576 : Int) < (n : Int) := by omega
    go_enter Try.func19, Try.ntmps19
    go_wp2
    go_ret
    exact ⟨by simp, rfl⟩
  · have h' : (1048576 : Int) < (n : Int) := by omega
    go_enter Try.func19, Try.ntmps19
    go_wp2
    go_ret
    exact ⟨by simp; omega, rfl⟩

/-! ### '==' on two pointers to sets -/
def IsBlk (w : World) (b : Nat) : Prop := ∃ cur t, w.heap[b]? = some (.cells cur t (0, 0))
theorem SetAt.blk {w : World} {base : Nat} {s : KS} (h : SetAt w base s) : IsBlk w s.b := by
  obtain ⟨_, _, a, cap, sm, e1, _⟩ := h; exact ⟨_, _, e1⟩

theorem Try.size60 : ∃ j, Try.prog.info? 60 = some j ∧ j.size ≠ 0 := by
  have h : (Try.prog.info? 60).map (·.size) = some 4 := by kernel_rfl
  cases hi : Try.prog.info? 60 with
  | none => rw [hi] at h; cases h
  | some j => rw [hi] at h; simp at h; exact ⟨j, rfl, by omega⟩

theorem eqlPtr {w : World} {b1 b2 : Nat} (h1 : IsBlk w b1) (h2 : IsBlk w b2) : (binOp .eql 29 (.pointer (some ⟨b1, 0, none⟩)) (.pointer (some ⟨b2, 0, none⟩))).run Try.prog w = .ok (.bool (b1 == b2)) w := by
  obtain ⟨c1, t1, e1⟩ := h1
  obtain ⟨c2, t2, e2⟩ := h2
  obtain ⟨j, hj, hs⟩ := Try.size60
  by_cases h : b1 = b2
  · subst h
    rw [run_eql_ptr_same w _ Try.underlying29 hj]; simp
  · rw [run_eql_ptr_other w Try.underlying29 hj hs (by simp [h]) e1 e2]; simp [h]

theorem neqPtr {w : World} {b1 b2 : Nat} (h1 : IsBlk w b1) (h2 : IsBlk w b2) : (binOp .neq 29 (.pointer (some ⟨b1, 0, none⟩)) (.pointer (some ⟨b2, 0, none⟩))).run Try.prog w = .ok (.bool (!(b1 == b2))) w := by
  obtain ⟨c1, t1, e1⟩ := h1
  obtain ⟨c2, t2, e2⟩ := h2
  obtain ⟨j, hj, hs⟩ := Try.size60
  have h : ∀ d : Nat, (Op.equalIn (d + 1) 29 (.pointer (some ⟨b1, 0, none⟩)) (.pointer (some ⟨b2, 0, none⟩))).run Try.prog w = .ok (b1 == b2) w := fun d => by
    by_cases hb : b1 = b2
    · subst hb
      simp [Op.equalIn, run_underlying Try.underlying29, sizeOf, typeInfo, hj, run_sameAddr_same]
    · simp [Op.equalIn, run_underlying Try.underlying29, sizeOf, typeInfo, hj, hs, run_sameAddr_other w (show (⟨b1, 0, none⟩ : Addr) ≠ ⟨b2, 0, none⟩ by simp [hb]) e1 e2, hb]
  simp only [binOp]
  simp [Op.equal, Op.maxDepth, h 9999]

/-! ### The fingerprint of a reversed list -/
theorem wrapU (x : Int) : IntKind.u64.wrap x = x % 18446744073709551616 := by simp [IntKind.wrap, IntKind.bits, IntKind.signed]
def sumT : List Key → Int
  | [] => 0
  | k :: r => term k + sumT r
theorem sumT_append (a b : List Key) : sumT (a ++ b) = sumT a + sumT b := by
  induction a with
  | nil => simp [sumT]
  | cons k r ih => simp [sumT, ih]; omega
theorem sumT_reverse (a : List Key) : sumT a.reverse = sumT a := by
  induction a with
  | nil => rfl
  | cons k r ih => simp [sumT_append, sumT, ih]; omega
theorem fpFrom_eq (f : Int) (hf : f % 18446744073709551616 = f) (ks : List Key) : fpFrom f ks = (f + sumT ks) % 18446744073709551616 := by
  induction ks generalizing f with
  | nil => simp [fpFrom, sumT, hf]
  | cons k r ih =>
    simp only [fpFrom, sumT, wrapU]
    rw [ih _ (by omega)]
    omega
theorem fpOf_eq (ks : List Key) : fpOf ks = sumT ks % 18446744073709551616 := by
  unfold fpOf; rw [fpFrom_eq 0 rfl]; simp
theorem fpOf_reverse (ks : List Key) : fpOf ks.reverse = fpOf ks := by rw [fpOf_eq, fpOf_eq, sumT_reverse]

theorem kAt_reverse (ks : List Key) (k : Nat) (h : k < ks.length) : kAt ks (ks.length - 1 - k) = kAt ks.reverse k := by
  simp [kAt, List.getD, List.getElem?_reverse h]

end Go.Proofs.Qxb6604108a
