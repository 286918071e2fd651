import Derived.Test.Qxb6604108aF1
namespace Go.Proofs.Qxb6604108a
open Go.RowKit
set_option linter.unusedVariables false
set_option linter.unusedSimpArgs false

theorem Cache.heap {w w' : World} {bc bm base : Nat} {st : List Bucket} (h : Cache w bc bm base st) (e : w'.heap = w.heap) : Cache w' bc bm base st :=
  h.keep (by rw [e]; exact Nat.le_refl _) (fun k _ _ => by rw [e])

/-- What each handle answers. -/
theorem Bal.answers {w : World} {bc bm base : Nat} {st : List Bucket} (hc : Cache w bc bm base st) {L : List Nat} (hbal : Bal st L) (hN : ∀ B ∈ st, B.sets.length ≤ 1048576 ∧ ∀ s ∈ B.sets, 0 ≤ s.n ∧ s.n ≤ 1048576) (b : Nat) (hb : b ∈ L) :
    (∀ wx : World, wx.heap = w.heap → Calls Try.prog 16 #[.pointer (some ⟨b, 0, none⟩)] wx fun e w' => e = .returned (.int .i64 (L.count b : Nat)) ∧ w' = wx) ∧
    (∀ wx : World, wx.heap = w.heap → Calls Try.prog 17 #[.pointer (some ⟨bc, 0, none⟩), .pointer (some ⟨b, 0, none⟩)] wx fun e w' => e = .returned (.bool true) ∧ ∃ q, w' = wx.drewN q) := by
  obtain ⟨s, hs, rfl⟩ := hbal.mem b hb
  have hn := (hbal.cnt s hs).1
  refine ⟨fun wx e => ?_, fun wx e => ?_⟩
  · have hsa := (hc.heap e).blkOf hs
    obtain ⟨_, _, _, _, _, c2, _⟩ := hsa.cells
    rw [hn] at c2
    exact holders_any _ _ _ c2
  · have := zzheld_any bc bm base st wx (hc.heap e) s ((hc.heap e).blkOf hs) hN
    rw [inSt_true.2 (List.mem_map.2 ⟨s, hs, rfl⟩)] at this
    exact this

set_option maxRecDepth 100000 in
set_option maxHeartbeats 2000000 in
theorem checkHandles_any (bc bm base : Nat) (st : List Bucket) (w : World) (hc : Cache w bc bm base st) (a : Option Addr) (n cap : Nat) (L : List Nat) (Hn : Hid (L.length = n)) (hp : PReads w a L) (hbal : Bal st L) (hn : n ≤ 4096) (hN : ∀ B ∈ st, B.sets.length ≤ 1048576 ∧ ∀ s ∈ B.sets, 0 ≤ s.n ∧ s.n ≤ 1048576) :
    Calls Try.prog 27 #[.pointer (some ⟨bc, 0, none⟩), .slice a n cap] w fun e w' => e = .returned (.bool true) ∧ ∃ q, w' = w.drewN q := by
  have HP : Hid (PReads w a L) := hp
  have HA : Hid (∀ b ∈ L, (∀ wx : World, wx.heap = w.heap → Calls Try.prog 16 #[.pointer (some ⟨b, 0, none⟩)] wx fun e w' => e = .returned (.int .i64 (L.count b : Nat)) ∧ w' = wx) ∧
    (∀ wx : World, wx.heap = w.heap → Calls Try.prog 17 #[.pointer (some ⟨bc, 0, none⟩), .pointer (some ⟨b, 0, none⟩)] wx fun e w' => e = .returned (.bool true) ∧ ∃ q, w' = wx.drewN q)) := fun b hb => hbal.answers hc hN b hb
  clear hc hp hbal hN
  go_enter Try.func27, Try.ntmps27
  go_wp2_with fail
  go_loopw [5] (fun i wr => ∃ k q : Nat, k ≤ n ∧ i = .int .i64 k ∧ wr = w.drewN q) (fun i _ => n - (intOf i).toNat)
  case atStart => exact ⟨0, 0, Nat.zero_le _, rfl, rfl⟩
  case round =>
    obtain ⟨k, q, hk, rfl, rfl⟩ := hrel
    by_cases hlt : k < n
    · obtain ⟨g, off, b, rfl, hb, hcell, hblk⟩ := HP.out.pt (k := k) (by rw [Hn.out]; exact hlt)
      have HK := Hid.mk (HA.out b (List.mem_of_getElem? hb))
      obtain ⟨wb, hwb⟩ : ∃ wb, wb = w.drewN q := ⟨_, rfl⟩
      have hhp : Hid (wb.heap = w.heap) := by rw [hwb]; exact rfl
      have hcb : wb.cell? ⟨g, off + k, none⟩ = some (.pointer (some ⟨b, 0, none⟩)) := by rw [hwb]; exact hcell
      have HPb : Hid (PReads wb (some ⟨g, off, none⟩) L) := HP.out.heap hhp.out
      have HIb : Hid (IsBlk wb b) := by have := hblk; unfold IsBlk at *; rw [hhp.out]; exact this
      have HWB : Hid (wb = w.drewN q) := hwb
      have hk0 : (0 : Int) ≤ (k : Int) := by omega
      have hk1 : (k : Int) < (n : Int) := by omega
      rw [← hwb]
      clear hb hblk hwb hcell
      have hne : (((L.count b : Nat) : Int) != ((L.count b : Nat) : Int)) = false := by simp
      have HCp : Hid (∀ p, Calls Try.prog 13 #[.slice (some ⟨g, off, none⟩) n cap, .pointer (some ⟨b, 0, none⟩)] (wb.drewN p) fun e w' => e = .returned (.int .i64 (L.count b : Nat)) ∧ w' = wb.drewN p) := fun p => countPtr_any _ _ _ L b _ Hn (by exact HPb.out) (by exact HIb.out) (by omega)
      generalize L.count b = c at *
      go_wp2_with fail
      go_quiet (first | (go_at_call 16; exact Calls.quiet_of_same (HK.out.1 _ (by exact hhp.out))) | (go_at_call 13; exact Calls.quiet_of_same (HCp.out _)) | (go_at_call 17; exact Calls.quiet_of (HK.out.2 _ (by exact hhp.out))))
      go_wp2_with fail
      go_roundw
      case rel => exact ⟨k + 1, q + nq, by omega, by go_num, by rw [HWB.out]; simp⟩
      case measure => simp [intOf]; omega
    · go_wp2_with fail
      go_ret
      exact ⟨rfl, q, rfl⟩

end Go.Proofs.Qxb6604108a
