import Derived.Test.Qxb6604108aR1
namespace Go.Proofs.Qxb6604108a
open Go.RowKit
set_option linter.unusedVariables false
set_option linter.unusedSimpArgs false

theorem IsBlk.setCell {w : World} {b : Nat} (h : IsBlk w b) (p : Addr) (v : Value) : IsBlk (w.setCell p v) b := by
  obtain ⟨cur, t, h⟩ := h
  by_cases hb : p.block = b
  · subst hb
    refine ⟨if p.spot.isSome then cur else cur.setIfInBounds p.off v, t, ?_⟩
    simp [World.setCell, Array.getElem?_modify, h]
  · exact ⟨cur, t, by rw [Below.heap_setCell _ _ _ _ (fun e => hb e.symm)]; exact h⟩

/-- What stands in cell q while the row is closed up behind i: all up to k has come down by one. -/
def shv (bs : List Nat) (i k q : Nat) : Nat := if i ≤ q ∧ q < k then bs.getD (q + 1) 0 else bs.getD q 0

theorem shv_step (bs : List Nat) (i k q : Nat) (hik : i ≤ k) : shv bs i (k + 1) q = if q = k then bs.getD (k + 1) 0 else shv bs i k q := by
  unfold shv
  by_cases h : q = k
  · subst h; simp [hik]
  · by_cases h2 : i ≤ q ∧ q < k
    · rw [if_pos (by omega), if_neg h, if_pos h2]
    · rw [if_neg (by omega), if_neg h, if_neg h2]

theorem clear28 (w : World) (ty : TypeId) (b o c : Nat) (v : Value) (hc : w.cell? ⟨b, o, none⟩ = some v) (hf : w.frozen? ⟨b, o, none⟩ = false) :
    (Builtin.clear_ #[28] ty #[.slice (some ⟨b, o, none⟩) 1 c]).run Try.prog w = .ok (.tuple #[]) (w.setCell ⟨b, o, none⟩ (.pointer none)) := by
  have := Lib.run_clear_slice (P := Try.prog) w 28 29 ty (.pointer none) Try.underlying28 (fun w => by kernel_rfl) rfl rfl b o 1 c (by omega)
    (fun j hj => by obtain rfl : j = 0 := by omega
                    simp [hc]) (fun j hj => by obtain rfl : j = 0 := by omega
                                               simpa using hf)
  rw [this]
  rfl

set_option maxHeartbeats 1000000 in
theorem deleteFunc_any (g m cap s bx i : Nat) (bs : List Nat) (w : World) (cur : Array Value) (Hm : Hid (bs.length = m)) (hm : m ≤ 1048577) (hblk : w.heap[g]? = some (.cells cur 29 (0, 0))) (hsz : cur.size = cap) (hmc : m ≤ cap) (hcm : cap ≤ 9223372036854775807)
    (hcur : ∀ (j b : Nat), bs[j]? = some b → cur[j]? = some (P0 b) ∧ IsBlk w b) (hnd : bs.Nodup) (hbx : bx ≠ g) (hcell : w.cell? ⟨bx, 0, none⟩ = some (.pointer (some ⟨s, 0, none⟩))) (hi : bs[i]? = some s) :
    Calls Try.prog 34 #[.slice (some ⟨g, 0, none⟩) m cap, .func (.func 35) #[] #[.pointer (some ⟨bx, 0, none⟩)]] w fun e w' => e = .returned (.slice (some ⟨g, 0, none⟩) (m - 1) cap) ∧
      (∃ cur', w'.heap[g]? = some (.cells cur' 29 (0, 0)) ∧ cur'.size = cap ∧ ∀ q, q < m - 1 → cur'[q]? = some (P0 (shv bs i (m - 1) q))) ∧ w.grownBy w' (some g) := by
  have hs : IsBlk w s := (hcur i s hi).2
  have HI : Hid (bs[i]? = some s) := hi
  have HC : Hid (∀ (j b : Nat), bs[j]? = some b → cur[j]? = some (P0 b) ∧ IsBlk w b) := hcur
  have HND : Hid bs.Nodup := hnd
  have HP : Hid (Ptrs w g bs) := fun j b hb => ⟨by rw [cell_of_block hblk]; exact (hcur j b hb).1, (hcur j b hb).2⟩
  have him : i < m := by have := (List.getElem?_eq_some_iff.1 hi).1; rw [← Hm.out]; exact this
  have hic : Hid (Calls Try.prog 36 #[.slice (some ⟨g, 0, none⟩) m cap, .func (.func 35) #[] #[.pointer (some ⟨bx, 0, none⟩)]] w fun e w' => e = .returned (.int .i64 i) ∧ w' = w) :=
    indexFunc_any g m cap s bx i bs w Hm hm HP.out hcell hs hi (fun j hj e => by
      have := (List.getElem?_inj (List.getElem?_eq_some_iff.1 hi).1 hnd).1 (hi.trans e.symm); omega)
  have HB : Hid (w.heap[g]? = some (.cells cur 29 (0, 0))) := hblk
  have HSZ : Hid (cur.size = cap) := hsz
  have hi0 : ((i : Int) == -1) = false := by simp
  clear hcur hi hnd hblk hsz
  go_enter Try.func34, Try.ntmps34
  go_wp2_with (first | (go_at_call 36; refine hic.out.mono ?_; rintro e w' ⟨rfl, hww⟩; subst w'))
  go_loopw [5, 6] (fun iv jv wr => ∃ k : Nat, i ≤ k ∧ k + 1 ≤ m ∧ iv = .int .i64 k ∧ jv = .int .i64 ((k : Int) + 1) ∧ (∃ cur', wr.heap[g]? = some (.cells cur' 29 (0, 0)) ∧ cur'.size = cap ∧ ∀ q, q < m → cur'[q]? = some (P0 (shv bs i k q))) ∧ w.grownBy wr (some g) ∧ ∀ b, IsBlk w b → IsBlk wr b)
    (fun _ jv _ => m - (intOf jv).toNat)
  case atStart =>
    refine ⟨i, Nat.le_refl _, by omega, rfl, rfl, ⟨cur, HB.out, HSZ.out, fun q hq => ?_⟩, ⟨rfl, rfl, rfl, Nat.le_refl _, fun _ _ _ => rfl⟩, fun _ h => h⟩
    have hql : q < bs.length := by rw [Hm.out]; exact hq
    have : shv bs i i q = bs[q] := by unfold shv; rw [if_neg (by omega)]; simp [hql]
    rw [this]
    exact (HC.out q _ (List.getElem?_eq_getElem hql)).1
  case round =>
    obtain ⟨k, hk, hkm, rfl, rfl, ⟨cur', hb', hs', hc'⟩, hgr, hblk⟩ := hrel
    have hks : Hid (bs.length = m) := Hm
    have cbx : wr.cell? ⟨bx, 0, none⟩ = some (.pointer (some ⟨s, 0, none⟩)) := hgr.cell hcell (by simpa using hbx)
    by_cases hlt : k + 1 < m
    · obtain ⟨b, hb⟩ : ∃ b, bs[k + 1]? = some b := ⟨_, List.getElem?_eq_getElem (by rw [Hm.out]; exact hlt)⟩
      have hbd : bs.getD (k + 1) 0 = b := by simp [List.getD, hb]
      have c1 : wr.cell? ⟨g, k + 1, none⟩ = some (.pointer (some ⟨b, 0, none⟩)) := by
        rw [cell_of_block hb', hc' (k + 1) hlt]
        unfold shv; rw [if_neg (by omega), hbd]; rfl
      obtain ⟨v0, c0⟩ := cell_at_block hb' k (by omega)
      have f0 := free_of_block hb' k
      have hbs : Hid ((b == s) = false) := by
        have : b ≠ s := fun e => by
          subst e
          have := (List.getElem?_inj (List.getElem?_eq_some_iff.1 hb).1 HND.out).1 (hb.trans HI.out.symm)
          omega
        simpa [Hid] using this
      have hcl := Hid.mk (closure_any b s bx wr cbx (hblk b (HC.out _ _ hb).2) (hblk s hs))
      have HB' : Hid (wr.heap[g]? = some (.cells cur' 29 (0, 0))) := hb'
      have HC' : Hid (∀ q, q < m → cur'[q]? = some (P0 (shv bs i k q))) := hc'
      have HS' : Hid (cur'.size = cap) := hs'
      have HBD : Hid (bs.getD (k + 1) 0 = b) := hbd
      have HG : Hid (w.grownBy wr (some g)) := hgr
      have HBK : Hid (∀ b, IsBlk w b → IsBlk wr b) := hblk
      clear hb hbd hb' hc' hs' hgr hblk hcell hi0 cbx hs
      go_wp2_with (first | (go_at_call 35; refine hcl.out.mono ?_; rintro e w' ⟨rfl, hww⟩; subst w'; rw [hbs.out]))
      go_roundw
      case rel =>
        refine ⟨k + 1, by omega, by omega, by go_num, by go_num, ⟨cur'.setIfInBounds k (P0 b), block_setCell HB'.out _ _, by simp [HS'.out], fun q hq => ?_⟩, ?_, fun b' hb' => (HBK.out b' hb').setCell _ _⟩
        · rw [shv_step bs i k q hk, Array.getElem?_setIfInBounds]
          by_cases hqk : k = q
          · subst hqk
            rw [if_pos rfl, if_pos (by rw [HS'.out]; omega), if_pos rfl, HBD.out]
          · rw [if_neg hqk, if_neg (fun e => hqk e.symm)]
            exact HC'.out q hq
        · have h1 := HG.out
          exact ⟨h1.os, h1.tape, h1.output, by simpa [World.setCell] using h1.size, fun j hj hne => by
            rw [Below.heap_setCell _ _ _ _ (fun e => hne (by rw [e]))]; exact h1.block j hj hne⟩
      case measure => simp [intOf]; omega
    · have hk' : m = k + 1 := by omega
      subst hk'
      have hcl := fun ty => clear28 wr ty g k (cap - k) _ (by rw [cell_of_block hb', hc' k (by omega)]) (free_of_block hb' k)
      have hcap : ¬ cap = k := by omega
      have HB' : Hid (wr.heap[g]? = some (.cells cur' 29 (0, 0))) := hb'
      have HC' : Hid (∀ q, q < k + 1 → cur'[q]? = some (P0 (shv bs i k q))) := hc'
      have HS' : Hid (cur'.size = cap) := hs'
      have HG : Hid (w.grownBy wr (some g)) := hgr
      clear hb' hc' hs' hgr hblk hcell hi0 cbx hs
      go_wp2_with fail
      go_ret
      simp only [Nat.add_sub_cancel]
      refine ⟨rfl, ⟨cur'.setIfInBounds k (.pointer none), block_setCell HB'.out _ _, by simp [HS'.out], fun q hq => ?_⟩, ?_⟩
      · rw [Array.getElem?_setIfInBounds, if_neg (by omega)]
        exact HC'.out q (by omega)
      · have h1 := HG.out
        exact ⟨h1.os, h1.tape, h1.output, by simpa [World.setCell] using h1.size, fun j hj hne => by
          rw [Below.heap_setCell _ _ _ _ (fun e => hne (by rw [e]))]; exact h1.block j hj hne⟩

end Go.Proofs.Qxb6604108a
