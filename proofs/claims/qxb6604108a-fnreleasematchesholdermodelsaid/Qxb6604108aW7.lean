import Derived.Test.Qxb6604108aW6
namespace Go.Proofs.Qxb6604108a
open Go.RowKit
set_option linter.unusedVariables false
set_option linter.unusedSimpArgs false

/-- 'make([][3]uint64, 0, n)'. -/
theorem mk41cap (n : Nat) (hn : n ≤ 1048576) (w : World) : (Instr.makeSlice 31 (.int .i64 0) (.int .i64 (n : Int))).run Try.prog w = .ok (.slice (some ⟨w.heap.size, 0, none⟩) 0 n) (w.alloc (.cells (rowK [] 0 n) 41)) := by
  obtain ⟨i0, hi, hz0, hz1, hz2⟩ := info_parts Try.info41
  rw [run_make w 31 41 i0 _ Try.underlying31 hi hz0 .i64 .i64 0 n (by omega) (by omega) (by rw [hz2]; omega) (by omega)]
  simp only [Int.toNat_natCast, hz1]
  have : rowK [] 0 n = madeCells #[Value.int .u64 0, .int .u64 0, .int .u64 0] (n * 3) := by rw [made3]; simp [rowK, flat]
  rw [this]; rfl

attribute [local go_sem ↓] Go.wp_at_zero Go.wp_at_succ

set_option maxHeartbeats 1000000 in
theorem keys_any (bs : Nat) (a : Option Addr) (n cap : Nat) (ks : List Key) (w : World) (hcell : w.cell? ⟨bs, 0, none⟩ = some (.slice a n cap)) (hbs : bs < w.heap.size) (Hn : Hid (ks.length = n)) (hr : Reads w a ks) (hn : n ≤ 1048576) :
    Calls Try.prog 14 #[.pointer (some ⟨bs, 0, none⟩)] w fun e w' => ∃ a' cap', e = .returned (.slice a' n cap') ∧ w'.ownsRow w.heap.size 41 3 (.slice a' n cap') n (flat ks) ∧ Below w.heap.size w w' := by
  obtain ⟨i0, hi0, hz0, hz1, hz2⟩ := info_parts Try.info41
  have hmk := mk41cap n hn
  go_enter Try.func14, Try.ntmps14
  go_wp2_with fail
  go_loopw [3, 4] (fun v i wr => ∃ k : Nat, k ≤ n ∧ i = .int .i64 k ∧ wr.ownsRow w.heap.size 41 3 v k (flat (ks.take k)) ∧ Below w.heap.size w wr) (fun _ i _ => n - (intOf i).toNat)
  case atStart => exact ⟨0, Nat.zero_le _, rfl, World.ownsRow_made w _ n (Nat.le_refl _) (by unfold maxLen; omega) (by simp [rowK, flat]), (Below.refl _ _).alloc (Nat.le_refl _) _⟩
  case round =>
    obtain ⟨k, hk, rfl, hown, hbel⟩ := hrel
    have hcr : wr.cell? ⟨bs, 0, none⟩ = some (.slice a n cap) := (hbel.cell hbs).trans hcell
    by_cases hlt : k < n
    · have hks := Hn.out
      obtain ⟨b, o, hx, hb, hcc⟩ := hr k (by omega)
      cases hx
      obtain ⟨a0, a1, a2⟩ := hcc k (by omega)
      have r0 := (hbel.cell (p := ⟨b, o + k * 3, none⟩) hb).trans a0
      have r1 := (hbel.cell (p := ⟨b, o + k * 3 + 1, none⟩) hb).trans a1
      have r2 := (hbel.cell (p := ⟨b, o + k * 3 + 2, none⟩) hb).trans a2
      have HS : Hid (flat (ks.take k) ++ [.int .u64 (kAt ks k).1, .int .u64 (kAt ks k).2.1, .int .u64 (kAt ks k).2.2] = flat (ks.take (k + 1))) := flat_take_snoc ks k (by omega)
      have hkn : (k : Int) < (n : Int) := by omega
      have hk0 : (0 : Int) ≤ (k : Int) := by omega
      have hbw := hbel.size
      have hvb : Hid (u3.ownBlock ≠ some b) := fun e => by have := (hown.lt b e).1; omega
      have hvs : Hid (u3.ownBlock ≠ some bs) := fun e => by have := (hown.lt bs e).1; omega
      clear hr hcc a0 a1 a2 hks hmk hcell
      generalize kAt ks k = kk at *
      obtain ⟨x0, x1, x2⟩ := kk
      go_wp2_with fail
      go_region_held3 (fun w' => w'.cell? ⟨bs, 0, none⟩ = some (.slice (some ⟨b, o, none⟩) n cap) ∧ w'.cell? ⟨b, o + k * 3, none⟩ = some (.int .u64 x0) ∧ w'.cell? ⟨b, o + k * 3 + 1, none⟩ = some (.int .u64 x1) ∧ w'.cell? ⟨b, o + k * 3 + 2, none⟩ = some (.int .u64 x2))
        (first | (go_keep) | (refine ⟨hs6.out _ _ ?_, hk6.out _ _ ?_, hk6.out _ _ ?_, hk6.out _ _ ?_⟩ <;> go_keep))
        ((refine step_append_lies _ (by rfl) _ _ _ (by rfl) w.heap.size 41 i0 _ 3 24 Try.underlying31 hi0 hz0 hz1 hz2 rfl (by omega) u3 k (flat (ks.take k)) (by rfl) ((hown.alloc _).drew) ⟨wr.heap.size, 0, none⟩ 1 1 [.int .u64 x0, .int .u64 x1, .int .u64 x2] (by rfl) (by rfl) (World.news_of_block (cs := #[.int .u64 x0, .int .u64 x1, .int .u64 x2]) (t := 41) (fr := (0, 0)) (heap_alloc_new wr _)) (by simp [Value.oneCell']) (by omega) (by unfold maxLen; omega) (by omega) (by simp; omega) (wr.heap.size + 1) (by simp) ?_; intro g cap1 w6 hown6 hg6 hat hlt6; have hk6 := Hid.mk (keep_far hg6 hvb.out (by simp; omega)); have hs6 := Hid.mk (keep_far hg6 hvs.out (by simp; omega))))
      have hb6 : Below w.heap.size w w6 := ((hbel.alloc hbel.size _).drew).grown hg6 (by simp; omega) (fun j hj => (hown.lt j hj).1)
      have hown7 : w6.ownsRow w.heap.size 41 3 (.slice (some ⟨g, 0, none⟩) (k + 1) cap1) (k + 1) (flat (ks.take (k + 1))) := by rw [← HS.out]; exact hown6
      clear hk6 hs6 hg6 hown6 hown hbel r0 r1 r2 hat hlt6 hcr
      go_wp2
      go_roundw
      case rel => exact ⟨k + 1, by omega, by go_num, hown7, hb6⟩
      case measure => simp [intOf]; omega
    · have hk' : k = n := by omega
      subst hk'
      have hks := Hn.out
      rw [List.take_of_length_le (by omega)] at hown
      obtain ⟨a', cap', hv, ha'⟩ := own_form hown
      subst hv
      clear hks hlt ha' hr hmk
      go_wp2_with fail
      go_ret
      exact ⟨a', cap', rfl, hown, hbel⟩

end Go.Proofs.Qxb6604108a
