import Derived.Test.Qxb6604108aW5
namespace Go.Proofs.Qxb6604108a
open Go.RowKit
set_option linter.unusedVariables false
set_option linter.unusedSimpArgs false

theorem Hid.mk {p : Prop} (h : p) : Hid p := h

theorem HeldBy.mono {st : List Bucket} {ks : List Key} {b H H' : Nat} {st' : List Bucket} (h : HeldBy st ks b H st') (hH : H' ≤ H) : HeldBy st ks b H' st' := by
  rcases h with h | ⟨j, B, v', h1, h2, h3, h4, h5⟩ | ⟨v', h1, h2, h3⟩
  · exact Or.inl h
  · exact Or.inr (Or.inl ⟨j, B, v', h1, h2, h3, by omega, h5⟩)
  · exact Or.inr (Or.inr ⟨v', h1, by omega, h3⟩)

theorem own_form {w : World} {base e size : Nat} {v : Value} {n : Nat} {xs : List Value} (h : w.ownsRow base e size v n xs) : ∃ a cap, v = .slice a n cap ∧ (a = none → n = 0) := by
  rcases h.2 with ⟨h1, h2⟩ | ⟨g, cap, cur, h1, _⟩
  · subst h2; exact ⟨none, 0, h1, fun _ => rfl⟩
  · exact ⟨_, cap, h1, fun h => by cases h⟩

theorem flat_take_snoc (ks : List Key) (k : Nat) (h : k < ks.length) : flat (ks.take k) ++ [.int .u64 (kAt ks k).1, .int .u64 (kAt ks k).2.1, .int .u64 (kAt ks k).2.2] = flat (ks.take (k + 1)) := by
  rw [take_snocK ks k h, flat_append]; rfl

theorem keep_far {w w6 : World} {row : Option Nat} {b : Nat} (hg : w.grownBy w6 row) (hne : row ≠ some b) (hlt : b < w.heap.size) : ∀ o v, w.cell? ⟨b, o, none⟩ = some v → w6.cell? ⟨b, o, none⟩ = some v := fun o v h =>
  hg.cell h (fun e => hne e.symm)

attribute [local go_sem ↓] Go.wp_at_zero Go.wp_at_succ

set_option maxHeartbeats 1000000 in
theorem zzhold_any (bc bm base : Nat) (st : List Bucket) (a : Option Addr) (n cap : Nat) (ks : List Key) (w : World) (Hn : Hid (ks.length = n)) (hr : Reads w a ks) (hn : n ≤ 1048576) (hc : Cache w bc bm base st)
    (hN : ∀ B ∈ st, B.sets.length ≤ 1048576 ∧ ∀ s ∈ B.sets, 0 ≤ s.n ∧ s.n ≤ 1048576) :
    Calls Try.prog 12 #[.pointer (some ⟨bc, 0, none⟩), .slice a n cap] w fun e w' => ∃ b st', e = .returned (.pointer (some ⟨b, 0, none⟩)) ∧ Cache w' bc bm base st' ∧ HeldBy st ks b w.heap.size st' ∧ Off (fun k => k = bm ∨ base ≤ k) w w' := by
  obtain ⟨i0, hi0, hz0, hz1, hz2⟩ := info_parts Try.info56
  have HCa : Hid (Cache w bc bm base st) := hc
  have HNN : Hid (∀ B ∈ st, B.sets.length ≤ 1048576 ∧ ∀ s ∈ B.sets, 0 ≤ s.n ∧ s.n ≤ 1048576) := hN
  clear hc hN
  go_enter Try.func12, Try.ntmps12
  go_wp2_with fail
  go_loopw [5, 6] (fun v i wr => ∃ k : Nat, k ≤ n ∧ i = .int .i64 k ∧ wr.ownsRow w.heap.size 56 3 v k (flat (ks.take k)) ∧ Below w.heap.size w wr) (fun _ i _ => n - (intOf i).toNat)
  case atStart => exact ⟨0, Nat.zero_le _, rfl, World.ownsRow_nil _ _ _ _, Below.refl _ _⟩
  case round =>
    obtain ⟨k, hk, rfl, hown, hbel⟩ := hrel
    by_cases hlt : k < n
    · have hks := Hn.out
      obtain ⟨b, o, hx, hb, hcc⟩ := hr k (by omega)
      cases hx
      obtain ⟨a0, a1, a2⟩ := hcc k (by omega)
      have r0 := (hbel.cell (p := ⟨b, o + k * 3, none⟩) hb).trans a0
      have r1 := (hbel.cell (p := ⟨b, o + k * 3 + 1, none⟩) hb).trans a1
      have r2 := (hbel.cell (p := ⟨b, o + k * 3 + 2, none⟩) hb).trans a2
      have HS : Hid (flat (ks.take k) ++ [.int .u64 (kAt ks k).1, .int .u64 (kAt ks k).2.1, .int .u64 (kAt ks k).2.2] = flat (ks.take (k + 1))) := flat_take_snoc ks k (by omega)
      have hkn : (k : Int) < (n : Int) := by omega
      have hk0 : (0 : Int) ≤ (k : Int) := by omega
      have hbw := hbel.size
      have hvb : Hid (u5.ownBlock ≠ some b) := fun e => by have := (hown.lt b e).1; omega
      clear hr hcc a0 a1 a2 hks
      generalize kAt ks k = kk at *
      obtain ⟨x0, x1, x2⟩ := kk
      go_wp2_with fail
      go_region_held3 (fun w' => w'.cell? ⟨b, o + k * 3, none⟩ = some (.int .u64 x0) ∧ w'.cell? ⟨b, o + k * 3 + 1, none⟩ = some (.int .u64 x1) ∧ w'.cell? ⟨b, o + k * 3 + 2, none⟩ = some (.int .u64 x2))
        (first | (go_keep) | (refine ⟨hk6.out _ _ ?_, hk6.out _ _ ?_, hk6.out _ _ ?_⟩ <;> go_keep))
        ((refine step_append_lies _ (by rfl) _ _ _ (by rfl) w.heap.size 56 i0 _ 3 24 Try.underlying53 hi0 hz0 hz1 hz2 rfl (by omega) u5 k (flat (ks.take k)) (by rfl) ((hown.alloc _).drew) ⟨wr.heap.size, 0, none⟩ 1 1 [.int .u64 x0, .int .u64 x1, .int .u64 x2] (by rfl) (by rfl) (World.news_of_block (cs := #[.int .u64 x0, .int .u64 x1, .int .u64 x2]) (t := 56) (fr := (0, 0)) (heap_alloc_new wr _)) (by simp [Value.oneCell']) (by omega) (by unfold maxLen; omega) (by omega) (by simp; omega) (wr.heap.size + 1) (by simp) ?_; intro g cap1 w6 hown6 hg6 hat hlt6; have hk6 := Hid.mk (keep_far hg6 hvb.out (by simp; omega))))
      have hb6 : Below w.heap.size w w6 := ((hbel.alloc hbel.size _).drew).grown hg6 (by simp; omega) (fun j hj => (hown.lt j hj).1)
      have hown7 : w6.ownsRow w.heap.size 56 3 (.slice (some ⟨g, 0, none⟩) (k + 1) cap1) (k + 1) (flat (ks.take (k + 1))) := by rw [← HS.out]; exact hown6
      clear hk6 hg6 hown6 hown hbel r0 r1 r2 hat hlt6
      go_wp2
      go_roundw
      case rel => exact ⟨k + 1, by omega, by go_num, hown7, hb6⟩
      case measure => simp [intOf]; omega
    · have hk' : k = n := by omega
      subst hk'
      have hks := Hn.out
      rw [List.take_of_length_le (by omega)] at hown
      obtain ⟨a', cap', hv, ha'⟩ := own_form hown
      subst hv
      have HA : Hid (a' = none → k = 0) := ha'
      have HR : Hid (Reads wr a' ks) := reads_of_own hown
      clear hks hlt hown ha' hr
      go_wp2_with (first | (go_at_call 29; refine (hold_any bc bm base st a' k cap' ks _ Hn HR.out hn HA.out (HCa.out.below hbel) HNN.out).mono ?_; rintro e w3 ⟨b, st', rfl, hc3, hh3, ho3⟩))
      go_ret
      exact ⟨b, st', rfl, hc3, hh3.mono hbel.size, (Off.of_below hbel (fun k h1 h2 => by omega)).trans ho3 (fun _ _ h => h)⟩

end Go.Proofs.Qxb6604108a
