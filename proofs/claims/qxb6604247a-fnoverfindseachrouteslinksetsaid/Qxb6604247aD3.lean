import Derived.Test.Qxb6604247aD2
namespace Go.Proofs.Qxb6604247a
open Go.RowKit
set_option linter.unusedVariables false
set_option linter.unusedSimpArgs false

theorem newC {w : World} {cs : Array Value} {t : TypeId} {o n : Nat} {v : Value} (hn : n = w.heap.size) (hv : cs[o]? = some v) : (w.alloc (.cells cs t)).cell? ⟨n, o, none⟩ = some v := by
  subst hn
  rw [cell_of_block (heap_alloc_new w _)]; exact hv

/-- What 'zzDestOver' hands back. -/
def DestR (v : Value) (e : Ending) (w' : World) : Prop := ∃ d p, e = .returned (.pointer (some ⟨d, 0, none⟩)) ∧ w'.cell? ⟨d, 0, none⟩ = some (.pointer (some ⟨p, 0, none⟩)) ∧ w'.cell? ⟨p, 4, none⟩ = some v

set_option maxHeartbeats 1000000 in
theorem destOver_any (a : Option Addr) (n cap : Nat) (w : World) : Calls Try.prog 13 #[.slice a n cap] w fun e w' => DestR (.slice a n cap) e w' ∧ Below w.heap.size w w' := by
  go_enter Try.func13, Try.ntmps13
  go_wp2_with fail
  go_ret
  exact ⟨⟨_, _, rfl, newC (by simp) rfl, oldC (newC rfl rfl) _⟩, ((Below.refl _ _).alloc (Nat.le_refl _) _).alloc (by simp) _⟩

/-- The first route over the linkset. -/
def OverR (bs : List Nat) (t : Option Nat) (e : Ending) : Prop :=
  (∃ (i b : Nat), e = .returned (.int .i64 (i : Nat)) ∧ bs[i]? = some b ∧ t = some b ∧ ∀ j, j < i → bs[j]? ≠ some b) ∨ (e = .returned (.int .i64 (-1)) ∧ ∀ (j b : Nat), bs[j]? = some b → t ≠ some b)

def tptr (t : Option Nat) : Value := .pointer (t.map fun b => ⟨b, 0, none⟩)

set_option maxHeartbeats 1000000 in
theorem over_any (d p : Nat) (a : Option Addr) (g n cap : Nat) (bs : List Nat) (t : Option Nat) (w : World) (hd : w.cell? ⟨d, 0, none⟩ = some (.pointer (some ⟨p, 0, none⟩))) (hp : w.cell? ⟨p, 4, none⟩ = some (.slice a n cap))
    (Hn : Hid (bs.length = n)) (hrow : n = 0 ∨ (a = some ⟨g, 0, none⟩ ∧ RRow w g n bs)) (hbs : ∀ b ∈ bs, IsBlk w b) (ht : ∀ b, t = some b → IsBlk w b) (hn : n ≤ 4096) :
    Calls Try.prog 18 #[.pointer (some ⟨d, 0, none⟩), tptr t] w fun e w' => OverR bs t e ∧ Below w.heap.size w w' := by
  have HB : Hid (∀ b ∈ bs, IsBlk w b) := hbs
  have HT : Hid (∀ b, t = some b → IsBlk w b) := ht
  have HRo : Hid (n = 0 ∨ (a = some ⟨g, 0, none⟩ ∧ RRow w g n bs)) := hrow
  obtain ⟨tv, htv⟩ : ∃ tv, tv = t.map fun b => (⟨b, 0, none⟩ : Addr) := ⟨_, rfl⟩
  unfold tptr
  rw [← htv]
  have HTv : Hid (tv = t.map fun b => (⟨b, 0, none⟩ : Addr)) := htv
  clear hbs ht hrow htv
  go_enter Try.func18, Try.ntmps18
  go_wp2_with fail
  clear hd hp
  go_loopw [15] (fun i wr => ∃ k : Nat, k ≤ n ∧ i = .int .i64 k ∧ (∀ (j b : Nat), j < k → bs[j]? = some b → t ≠ some b) ∧ Below w.heap.size w wr) (fun i _ => n - (intOf i).toNat)
  case atStart => exact ⟨0, Nat.zero_le _, rfl, fun j b h => by omega, Below.refl _ _⟩
  case round =>
    obtain ⟨k, hk, rfl, hno, hbel⟩ := hrel
    have HNo : Hid (∀ (j b : Nat), j < k → bs[j]? = some b → t ≠ some b) := hno
    have HBe : Hid (Below w.heap.size w wr) := hbel
    clear hno hbel
    by_cases hlt : k < n
    · obtain ⟨rfl, hR⟩ : a = some ⟨g, 0, none⟩ ∧ RRow w g n bs := by
        rcases HRo.out with h | h
        · omega
        · exact h
      obtain ⟨b, hb⟩ : ∃ b, bs[k]? = some b := ⟨_, List.getElem?_eq_getElem (by rw [Hn.out]; exact hlt)⟩
      obtain ⟨c0, c1⟩ := (hR.keep (HBe.out.block g hR.lt)).cells hb
      have HBk : Hid (bs[k]? = some b) := hb
      have hbb : IsBlk wr b := (HB.out b (List.mem_of_getElem? hb)).below HBe.out
      clear hb hR HRo
      cases t with
      | none =>
        have htn : tv = none := HTv.out
        subst htn
        go_wp2_with fail
        go_roundw
        case rel => exact ⟨k + 1, by omega, by go_num, fun j b _ _ h => by (have h' : (none : Option Nat) = some b := h; cases h'), HBe.out.alloc HBe.out.size _⟩
        case measure => simp [intOf]; omega
      | some tb =>
        have htn : tv = some ⟨tb, 0, none⟩ := HTv.out
        subst htn
        have htb : IsBlk wr tb := (HT.out tb rfl).below HBe.out
        have he : (binOp .eql 29 (.pointer (some ⟨b, 0, none⟩)) (.pointer (some ⟨tb, 0, none⟩))).run Try.prog (wr.alloc (.cells #[.pointer (some ⟨b, 0, none⟩), .int .i64 (k : Nat)] 31)) = .ok (.bool (b == tb)) (wr.alloc (.cells #[.pointer (some ⟨b, 0, none⟩), .int .i64 (k : Nat)] 31)) :=
          eqlPtr (hbb.below ((Below.refl _ _).alloc (Nat.le_refl _) _)) (htb.below ((Below.refl _ _).alloc (Nat.le_refl _) _))
        clear hbb htb
        by_cases hbt : b = tb
        · have HBt : Hid (b = tb) := hbt
          rw [show (b == tb) = true by simp [hbt]] at he
          clear hbt
          go_wp2_with fail
          go_ret
          refine ⟨Or.inl ⟨k, b, rfl, HBk.out, by rw [HBt.out], fun j hj h => HNo.out j b hj h (by rw [HBt.out])⟩, HBe.out.alloc HBe.out.size _⟩
        · have HBt : Hid (¬ b = tb) := hbt
          rw [show (b == tb) = false by simp [hbt]] at he
          clear hbt
          go_wp2_with fail
          go_roundw
          case rel =>
            refine ⟨k + 1, by omega, by go_num, fun j c hj hc => ?_, HBe.out.alloc HBe.out.size _⟩
            rcases Nat.lt_succ_iff_lt_or_eq.1 hj with h | rfl
            · exact HNo.out j c h hc
            · rw [HBk.out] at hc
              have h1 := Option.some.inj hc
              intro e
              have h2 := Option.some.inj e
              exact HBt.out (by rw [h1, h2])
          case measure => simp [intOf]; omega
    · go_wp2_with fail
      go_ret
      exact ⟨Or.inr ⟨rfl, fun j b hb => HNo.out j b (by have := (List.getElem?_eq_some_iff.1 hb).1; rw [Hn.out] at this; omega) hb⟩, HBe.out⟩

set_option maxHeartbeats 1000000 in
theorem zzover_any (d p : Nat) (a : Option Addr) (g n cap : Nat) (bs : List Nat) (t : Option Nat) (w : World) (hd : w.cell? ⟨d, 0, none⟩ = some (.pointer (some ⟨p, 0, none⟩))) (hp : w.cell? ⟨p, 4, none⟩ = some (.slice a n cap))
    (Hn : Hid (bs.length = n)) (hrow : n = 0 ∨ (a = some ⟨g, 0, none⟩ ∧ RRow w g n bs)) (hbs : ∀ b ∈ bs, IsBlk w b) (ht : ∀ b, t = some b → IsBlk w b) (hn : n ≤ 4096) :
    Calls Try.prog 12 #[.pointer (some ⟨d, 0, none⟩), tptr t] w fun e w' => OverR bs t e ∧ Below w.heap.size w w' := by
  have H := Hid.mk (over_any d p a g n cap bs t w hd hp Hn hrow hbs ht hn)
  clear hd hp hrow hbs ht
  unfold tptr at H ⊢
  obtain ⟨tv, htv⟩ : ∃ tv, tv = t.map fun b => (⟨b, 0, none⟩ : Addr) := ⟨_, rfl⟩
  rw [← htv] at H ⊢
  clear htv
  go_enter Try.func12, Try.ntmps12
  go_wp2_with fail
  refine H.out.mono ?_
  rintro e w1 ⟨ho, hb⟩
  have HO : Hid (OverR bs t e) := ho
  rcases ho with ⟨i, b, rfl, _⟩ | ⟨rfl, _⟩
  · go_wp2_with fail
    go_ret
    exact ⟨HO.out, hb⟩
  · go_wp2_with fail
    go_ret
    exact ⟨HO.out, hb⟩

end Go.Proofs.Qxb6604247a
