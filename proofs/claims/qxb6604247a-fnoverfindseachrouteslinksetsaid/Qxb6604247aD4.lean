import Derived.Test.Qxb6604247aD3
namespace Go.Proofs.Qxb6604247a
open Go.RowKit
set_option linter.unusedVariables false
set_option linter.unusedSimpArgs false

/-- The routes as both laws of 'over' see them. -/
structure Rts (w : World) (a : Option Addr) (g n : Nat) (zs : List Int) (bs : List Nat) : Prop where
  len : bs.length = n
  links : Links zs bs
  blk : ∀ b ∈ bs, IsBlk w b
  row : n = 0 ∨ (a = some ⟨g, 0, none⟩ ∧ RRow w g n bs)

theorem Rts.below {w w' : World} {a : Option Addr} {g n : Nat} {zs : List Int} {bs : List Nat} (h : Rts w a g n zs bs) (hb : Below w.heap.size w w') : Rts w' a g n zs bs :=
  ⟨h.len, h.links, fun b hx => (h.blk b hx).below hb, by
    rcases h.row with e | ⟨e, r⟩
    · exact Or.inl e
    · exact Or.inr ⟨e, r.keep (hb.block g r.lt)⟩⟩

theorem RoutesL.rts {n g : Nat} {zs : List Int} {e : Ending} {w' : World} (h : RoutesL n zs g e w') : ∃ a' bs, e = .returned (.slice a' n n) ∧ Rts w' a' g n zs bs ∧ (a' = none → n = 0) := by
  obtain ⟨a', bs, rfl, h1, h2, h3, h4⟩ := h
  refine ⟨a', bs, rfl, ⟨h1, h2, fun b hb => (h3 b hb).2, ?_⟩, ?_⟩
  · rcases h4 with ⟨h, _⟩ | h
    · exact Or.inl h
    · exact Or.inr h
  · intro e
    rcases h4 with ⟨h, _⟩ | ⟨h, _⟩
    · exact h
    · rw [e] at h; cases h

theorem Rts.over {w w2 : World} {a : Option Addr} {g n d p : Nat} {zs : List Int} {bs : List Nat} (h : Rts w2 a g n zs bs) (hd : w2.cell? ⟨d, 0, none⟩ = some (.pointer (some ⟨p, 0, none⟩))) (hp : w2.cell? ⟨p, 4, none⟩ = some (.slice a n n)) (hn : n ≤ 4096) (hb : Below w2.heap.size w2 w) (t : Option Nat) (ht : ∀ b, t = some b → IsBlk w b) :
    Calls Try.prog 12 #[.pointer (some ⟨d, 0, none⟩), tptr t] w fun e w' => OverR bs t e ∧ Below w.heap.size w w' :=
  zzover_any d p a g n n bs t w ((hb.cell (World.block_lt_of_cell? w2 _ hd)).trans hd) ((hb.cell (World.block_lt_of_cell? w2 _ hp)).trans hp) h.len (h.below hb).row (h.below hb).blk ht hn

theorem OverR.first {bs : List Nat} {b k : Nat} {e : Ending} (h : OverR bs (some b) e) (hk : bs[k]? = some b) : ∃ i : Nat, e = .returned (.int .i64 (i : Nat)) ∧ bs[i]? = some b ∧ i ≤ k ∧ ∀ j, j < i → bs[j]? ≠ some b := by
  rcases h with ⟨i, c, rfl, h1, h2, h3⟩ | ⟨_, h⟩
  · cases h2
    refine ⟨i, rfl, h1, ?_, h3⟩
    rcases Nat.lt_or_ge k i with h | h
    · exact absurd hk (h3 k h)
    · exact h
  · exact absurd rfl (h k b hk)

set_option maxHeartbeats 2000000 in
theorem law8_any (a : Option Addr) (n cap : Nat) (zs : List Int) (w : World) (Hn : Hid (zs.length = n)) (hr : NReads w a zs) (hmax : n ≤ 9223372036854775807) (h0 : a = none → n = 0) :
    Calls Try.prog 5 #[.slice a n cap] w fun e w' => e = .returned (.bool true) ∧ Below w.heap.size w w' := by
  have HR : Hid (NReads w a zs) := hr
  have H0 : Hid (a = none → n = 0) := h0
  clear hr h0
  go_enter Try.func5, Try.ntmps5
  go_wp2_with fail
  refine (bytes14_any a n cap w hmax).mono ?_
  rintro e w' ⟨⟨r, rfl⟩, hww⟩
  subst w'
  cases r with
  | false =>
    go_wp2_with fail
    go_ret
    exact ⟨rfl, Below.refl _ _⟩
  | true =>
    by_cases hn : n ≤ 4096
    · have hn' : ¬ (4096 : Int) < (n : Int) := by omega
      go_wp2_with fail
      refine (routesOver_any a n cap zs w Hn HR.out hn H0.out).mono ?_
      rintro e w1 ⟨hR, hb1⟩
      obtain ⟨a1, bs, rfl, hrts, ha1⟩ := hR.rts
      have HRt : Hid (Rts w1 a1 w.heap.size n zs bs) := hrts
      clear hR hrts ha1
      go_wp2_with fail
      refine (destOver_any a1 n n w1).mono ?_
      rintro e w2 ⟨⟨d, p, rfl, hd, hp⟩, hb2⟩
      have HRt2 : Hid (Rts w2 a1 w.heap.size n zs bs) := HRt.out.below hb2
      have HOv := Hid.mk (fun (wx : World) (hb : Below w2.heap.size w2 wx) (t : Option Nat) (ht : ∀ b, t = some b → IsBlk wx b) => HRt2.out.over hd hp hn hb t ht)
      have hov0 : Calls Try.prog 12 #[.pointer (some ⟨d, 0, none⟩), .pointer none] w2 fun e w' => OverR bs none e ∧ Below w2.heap.size w2 w' := HOv.out w2 (Below.refl _ _) none (fun b h => by cases h)
      have HOv0 := Hid.mk hov0
      clear hov0 hd hp HRt
      go_wp2_with fail
      refine HOv0.out.mono ?_
      rintro e w3 ⟨ho, hb3⟩
      rcases ho with ⟨i, b, _, _, h, _⟩ | ⟨rfl, _⟩
      · cases h
      · have HB3 : Hid (Below w2.heap.size w2 w3) := hb3
        clear hb3 HOv0
        go_wp2_with fail
        go_loopw [5] (fun i wr => ∃ k : Nat, k ≤ n ∧ i = .int .i64 k ∧ Below w2.heap.size w2 wr) (fun i _ => n - (intOf i).toNat)
        case atStart => exact ⟨0, Nat.zero_le _, rfl, HB3.out⟩
        case round =>
          clear HB3
          obtain ⟨k, hk, rfl, hbel⟩ := hrel
          have HBe : Hid (Below w2.heap.size w2 wr) := hbel
          clear hbel
          by_cases hlt : k < n
          · have hRt := HRt2.out.below HBe.out
            obtain ⟨rfl, hrow⟩ : a1 = some ⟨w.heap.size, 0, none⟩ ∧ RRow wr w.heap.size n bs := by
              rcases hRt.row with h | h
              · omega
              · exact h
            obtain ⟨b, hb⟩ : ∃ b, bs[k]? = some b := ⟨_, List.getElem?_eq_getElem (by rw [hRt.len]; exact hlt)⟩
            have ck := (hrow.cells hb).1
            have hov : Calls Try.prog 12 #[.pointer (some ⟨d, 0, none⟩), .pointer (some ⟨b, 0, none⟩)] wr fun e w' => OverR bs (some b) e ∧ Below wr.heap.size wr w' := HOv.out wr HBe.out (some b) (fun c hc => by cases hc; exact hRt.blk b (List.mem_of_getElem? hb))
            have HOvk := Hid.mk hov
            have HB : Hid (bs[k]? = some b) := hb
            have HRow : Hid (RRow wr w.heap.size n bs) := hrow
            clear hov hb hrow hRt
            go_wp2_with fail
            refine HOvk.out.mono ?_
            rintro e w4 ⟨ho, hb4⟩
            obtain ⟨i, rfl, hbi, hik, _⟩ := ho.first HB.out
            have hrow4 : RRow w4 w.heap.size n bs := HRow.out.keep (hb4.block _ HRow.out.lt)
            have ci := (hrow4.cells hbi).1
            have ck4 := (hrow4.cells HB.out).1
            have HB4 : Hid (Below w2.heap.size w2 w4) := HBe.out.trans (hb4.mono HBe.out.size)
            have hnq := fun w => neqPtr_same w ⟨b, 0, none⟩
            have hi0 : (0 : Int) ≤ (i : Int) := by omega
            have hi1 : (i : Int) < (n : Int) := by omega
            have hi2 : ¬ (k : Int) < (i : Int) := by omega
            have hi3 : ¬ (i : Int) < 0 := by omega
            have hk0 : (0 : Int) ≤ (k : Int) := by omega
            have hk1 : (k : Int) < (n : Int) := by omega
            clear ho hbi hrow4 hb4 ck HOvk
            go_wp2_with fail
            go_quiet (fail)
            go_wp2_with fail
            go_roundw
            case rel => exact ⟨k + 1, by omega, by go_num, HB4.out.trans ⟨rfl, rfl, rfl, Nat.le_refl _, fun _ _ => rfl⟩⟩
            case measure => simp [intOf]; omega
          · go_wp2_with fail
            go_ret
            exact ⟨rfl, (hb1.trans (hb2.mono hb1.size)).trans (HBe.out.mono (Nat.le_trans hb1.size hb2.size))⟩
    · have hn' : (4096 : Int) < (n : Int) := by omega
      go_wp2_with fail
      go_ret
      exact ⟨rfl, Below.refl _ _⟩

end Go.Proofs.Qxb6604247a
