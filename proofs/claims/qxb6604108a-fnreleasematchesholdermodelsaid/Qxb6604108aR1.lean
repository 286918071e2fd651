import Derived.Test.Qxb6604108aL4
namespace Go.Proofs.Qxb6604108a
open Go.RowKit
set_option linter.unusedVariables false
set_option linter.unusedSimpArgs false

/-- A pointer to the set of block b. -/
def P0 (b : Nat) : Value := .pointer (some ⟨b, 0, none⟩)

set_option maxHeartbeats 400000 in
theorem closure_any (b s bx : Nat) (w : World) (hcell : w.cell? ⟨bx, 0, none⟩ = some (.pointer (some ⟨s, 0, none⟩))) (h1 : IsBlk w b) (h2 : IsBlk w s) :
    Calls Try.prog 35 #[.pointer (some ⟨b, 0, none⟩), .pointer (some ⟨bx, 0, none⟩)] w fun e w' => e = .returned (.bool (b == s)) ∧ w' = w := by
  have he := eqlPtr h1 h2
  clear h1 h2
  go_enter Try.func35, Try.ntmps35
  go_wp2
  go_ret
  exact ⟨rfl, rfl⟩

/-- The pointers of a row, one cell each. -/
def Ptrs (w : World) (g : Nat) (bs : List Nat) : Prop := ∀ j b, bs[j]? = some b → w.cell? ⟨g, j, none⟩ = some (.pointer (some ⟨b, 0, none⟩)) ∧ IsBlk w b

set_option maxHeartbeats 400000 in
theorem indexFunc_any (g m cap s bx i : Nat) (bs : List Nat) (w : World) (Hm : Hid (bs.length = m)) (hm : m ≤ 1048577) (hp : Ptrs w g bs) (hcell : w.cell? ⟨bx, 0, none⟩ = some (.pointer (some ⟨s, 0, none⟩))) (hs : IsBlk w s)
    (hi : bs[i]? = some s) (hno : ∀ j, j < i → bs[j]? ≠ some s) :
    Calls Try.prog 36 #[.slice (some ⟨g, 0, none⟩) m cap, .func (.func 35) #[] #[.pointer (some ⟨bx, 0, none⟩)]] w fun e w' => e = .returned (.int .i64 i) ∧ w' = w := by
  have HP : Hid (Ptrs w g bs) := hp
  have HI : Hid (bs[i]? = some s) := hi
  have HNo : Hid (∀ j, j < i → bs[j]? ≠ some s) := hno
  have him : i < m := by have := (List.getElem?_eq_some_iff.1 hi).1; rw [← Hm.out]; exact this
  clear hp hi hno
  go_enter Try.func36, Try.ntmps36
  go_wp2_with fail
  go_loop [8] (fun k => ∃ j : Nat, j ≤ i ∧ k = .int .i64 j) (fun k => m - (intOf k).toNat)
  case atStart => exact ⟨0, Nat.zero_le _, rfl⟩
  case round =>
    obtain ⟨j, hj, rfl⟩ := hrel
    have hjm : j < m := by omega
    obtain ⟨b, hb⟩ : ∃ b, bs[j]? = some b := ⟨_, List.getElem?_eq_getElem (by rw [Hm.out]; exact hjm)⟩
    obtain ⟨c1, hbb⟩ := HP.out j b hb
    have hcl := Hid.mk (closure_any b s bx w hcell hbb hs)
    by_cases hji : j = i
    · subst hji
      have hbs : b = s := by rw [HI.out] at hb; exact (Option.some.inj hb).symm
      subst hbs
      clear hb
      go_wp2_with (first | (go_at_call 35; refine hcl.out.mono ?_; rintro e w' ⟨rfl, hww⟩; subst w'; rw [BEq.rfl]))
      go_ret
      exact ⟨rfl, rfl⟩
    · have hbs : (b == s) = false := by
        have h1 := HNo.out j (by omega)
        rw [hb] at h1
        simpa using h1
      have HBS : Hid ((b == s) = false) := hbs
      clear hb hbs
      go_wp2_with (first | (go_at_call 35; refine hcl.out.mono ?_; rintro e w' ⟨rfl, hww⟩; subst w'; rw [HBS.out]))
      go_round
      case rel => exact ⟨j + 1, by omega, by go_num⟩
      case measure => simp [intOf]; omega

end Go.Proofs.Qxb6604108a
