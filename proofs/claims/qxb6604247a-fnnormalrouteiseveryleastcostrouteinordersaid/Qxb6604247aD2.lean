import Derived.Test.Qxb6604247aD1
namespace Go.Proofs.Qxb6604247a
open Go.RowKit
set_option linter.unusedVariables false
set_option linter.unusedSimpArgs false

theorem Try.info31 : (Try.prog.info? 31).map (fun i => (i.zero, i.size, i.bytes)) = some (some (.agg #[.pointer none, .int .i64 0]), 2, 16) := by kernel_rfl

def blank2 (n : Nat) : Array Value := madeCells #[Value.pointer none, .int .i64 0] (n * 2)
theorem blank2_size (n : Nat) : (blank2 n).size = 2 * n := by simp [blank2, size_madeCells]; omega

theorem mk24 (n : Nat) (hn : n ≤ 1048576) (w : World) : (Instr.makeSlice 24 (.int .i64 (n : Int)) (.int .i64 (n : Int))).run Try.prog w = .ok (.slice (some ⟨w.heap.size, 0, none⟩) n n) (w.alloc (.cells (blank2 n) 31)) := by
  obtain ⟨i0, hi, hz0, hz1, hz2⟩ := info_parts Try.info31
  rw [run_make w 24 31 i0 _ Try.underlying24 hi hz0 .i64 .i64 n n (by omega) (by omega) (by rw [hz2]; omega) (by omega)]
  simp only [Int.toNat_natCast, hz1]
  rfl

theorem snoc_getElem? {α : Type} {L : List α} {x y : α} {j : Nat} (h : (L ++ [x])[j]? = some y) : (j < L.length ∧ L[j]? = some y) ∨ (j = L.length ∧ y = x) := by
  by_cases hj : j < L.length
  · rw [List.getElem?_append_left hj] at h; exact Or.inl ⟨hj, h⟩
  · rw [List.getElem?_append_right (by omega)] at h
    right
    rcases Nat.eq_or_lt_of_le (Nat.le_of_not_lt hj) with e | e
    · refine ⟨e.symm, ?_⟩
      rw [← e] at h; simp at h; exact h.symm
    · obtain ⟨q, hq⟩ : ∃ q, j - L.length = q + 1 := ⟨j - L.length - 1, by omega⟩
      rw [hq] at h; simp at h

theorem links_nil (zs : List Int) : Links zs [] := fun i j x y b c _ _ h => by simp at h
theorem Links.old {zs : List Int} {bs : List Nat} (h : Links zs bs) {k jn b : Nat} {x : Int} (hk : bs.length = k) (hx : zs[k]? = some x) (hj : zs[jn]? = some x) (hb : bs[jn]? = some b) : Links zs (bs ++ [b]) := by
  intro i j u v c d hu hv hc hd
  rcases snoc_getElem? hc with ⟨_, hc'⟩ | ⟨hi, rfl⟩ <;> rcases snoc_getElem? hd with ⟨_, hd'⟩ | ⟨hj', rfl⟩
  · exact h i j u v c d hu hv hc' hd'
  · rw [hj', hk, hx] at hv; cases hv
    exact h i jn u x c _ hu hj hc' hb
  · rw [hi, hk, hx] at hu; cases hu
    exact h jn j x v _ d hj hv hb hd'
  · rw [hi, hk, hx] at hu; cases hu
    rw [hj', hk, hx] at hv; cases hv
    exact ⟨fun _ => rfl, fun _ => rfl⟩
theorem Links.new {zs : List Int} {bs : List Nat} (h : Links zs bs) {k b : Nat} {x : Int} (hk : bs.length = k) (hx : zs[k]? = some x) (hno : ∀ p, p < k → zs[p]? ≠ some x) (hb : ∀ c ∈ bs, c ≠ b) : Links zs (bs ++ [b]) := by
  intro i j u v c d hu hv hc hd
  rcases snoc_getElem? hc with ⟨hi, hc'⟩ | ⟨hi, rfl⟩ <;> rcases snoc_getElem? hd with ⟨hj', hd'⟩ | ⟨hj', rfl⟩
  · exact h i j u v c d hu hv hc' hd'
  · rw [hj', hk, hx] at hv; cases hv
    exact ⟨fun e => absurd (by rw [hu, e]) (hno i (by omega)), fun e => absurd e (hb c (List.mem_of_getElem? hc'))⟩
  · rw [hi, hk, hx] at hu; cases hu
    exact ⟨fun e => absurd (by rw [hv, ← e]) (hno j (by omega)), fun e => absurd e.symm (hb d (List.mem_of_getElem? hd'))⟩
  · rw [hi, hk, hx] at hu; cases hu
    rw [hj', hk, hx] at hv; cases hv
    exact ⟨fun _ => rfl, fun _ => rfl⟩

theorem oldC {w : World} {b o : Nat} {v : Value} (h : w.cell? ⟨b, o, none⟩ = some v) (x : Obj) : (w.alloc x).cell? ⟨b, o, none⟩ = some v := by
  have hb := World.block_lt_of_cell? w _ h
  unfold World.cell? at *
  rw [Below.heap_alloc _ _ _ hb]; exact h
theorem oldF {w : World} {b o : Nat} (hb : b < w.heap.size) (h : w.frozen? ⟨b, o, none⟩ = false) (x : Obj) : (w.alloc x).frozen? ⟨b, o, none⟩ = false := by
  unfold World.frozen? at *
  rw [Below.heap_alloc _ _ _ hb]; exact h
/-- A new linkset of that index. -/
def lsObj (i : Int) : Obj := .cells #[.string { data := #[] }, .int .u32 0, .bool false, .int .i64 i, .int .i64 0] 35

/-- What 'zzRoutesOverLinksets' hands back. -/
def RoutesL (n : Nat) (zs : List Int) (g0 : Nat) (e : Ending) (w' : World) : Prop :=
  ∃ a' bs, e = .returned (.slice a' n n) ∧ bs.length = n ∧ Links zs bs ∧ (∀ b ∈ bs, g0 < b ∧ IsBlk w' b) ∧ ((n = 0 ∧ a' = none) ∨ (a' = some ⟨g0, 0, none⟩ ∧ RRow w' g0 n bs))

set_option maxHeartbeats 2000000 in
theorem routesOver_any (a : Option Addr) (n cap : Nat) (zs : List Int) (w : World) (Hn : Hid (zs.length = n)) (hr : NReads w a zs) (hn : n ≤ 4096) (h0 : a = none → n = 0) :
    Calls Try.prog 11 #[.slice a n cap] w fun e w' => RoutesL n zs w.heap.size e w' ∧ Below w.heap.size w w' := by
  have hmk := mk24 n (by omega)
  have hel := eqlNil 22 3 Try.underlying22
  cases a with
  | none =>
    obtain rfl := h0 rfl
    have hk : Hid (zs = []) := List.eq_nil_of_length_eq_zero Hn.out
    clear hmk hr
    go_enter Try.func11, Try.ntmps11
    go_wp2_with fail
    go_ret
    exact ⟨⟨none, [], rfl, rfl, links_nil _, by simp, Or.inl ⟨rfl, rfl⟩⟩, Below.refl _ _⟩
  | some x =>
    clear h0
    have HR : Hid (NReads w (some x) zs) := hr
    clear hr
    go_enter Try.func11, Try.ntmps11
    go_wp2_with fail
    clear hmk hel
    go_loopw [4] (fun i wr => ∃ (k : Nat) (bs : List Nat), k ≤ n ∧ i = .int .i64 k ∧ bs.length = k ∧ RRow wr w.heap.size n bs ∧ Links zs bs ∧ (∀ b ∈ bs, w.heap.size < b ∧ IsBlk wr b) ∧ Below w.heap.size w wr) (fun i _ => n - (intOf i).toNat)
    case atStart => exact ⟨0, [], Nat.zero_le _, rfl, rfl, ⟨_, heap_alloc_new w _, blank2_size n, fun j b h => by simp at h⟩, links_nil _, by simp, (Below.refl _ _).alloc (Nat.le_refl _) _⟩
    case round =>
      obtain ⟨k, bs, hk, rfl, hbl, hrow, hlk, hbs, hbel⟩ := hrel
      have HBl : Hid (bs.length = k) := hbl
      have HRo : Hid (RRow wr w.heap.size n bs) := hrow
      have HLk : Hid (Links zs bs) := hlk
      have HBs : Hid (∀ b ∈ bs, w.heap.size < b ∧ IsBlk wr b) := hbs
      have HBe : Hid (Below w.heap.size w wr) := hbel
      have hgl := hrow.lt
      clear hbl hrow hlk hbs hbel
      by_cases hlt : k < n
      · obtain ⟨g, off, x0, hx, hg, hz, hcell⟩ := (HR.out.below HBe.out).at (k := k) (by rw [Hn.out]; exact hlt)
        cases hx
        have HX : Hid (zs[k]? = some x0) := hz
        obtain ⟨cur, hcur, hcs, _⟩ := HRo.out
        have f0 := free_of_block hcur (k * 2)
        have f1 := free_of_block hcur (k * 2 + 1)
        obtain ⟨v0, c0⟩ := cell_at_block hcur (k * 2) (by omega)
        obtain ⟨v1, c1⟩ := cell_at_block hcur (k * 2 + 1) (by omega)
        clear hz hcur hcs
        go_wp2_with fail
        rename World => wa
        go_loopw [5, 6] (fun lv jv wx => ∃ jn q : Nat, jn ≤ k ∧ jv = .int .i64 jn ∧ lv = .pointer none ∧ (∀ p, p < jn → zs[p]? ≠ some x0) ∧ wx = wa.drewN q) (fun _ jv _ => k - (intOf jv).toNat)
        case atStart => exact ⟨0, 0, Nat.zero_le _, rfl, rfl, fun p hp => by omega, rfl⟩
        case round =>
          obtain ⟨jn, q, hjk, rfl, rfl, hno, rfl⟩ := hrel
          have HNo : Hid (∀ p, p < jn → zs[p]? ≠ some x0) := hno
          clear hno
          by_cases hjl : jn < k
          · obtain ⟨g2, off2, y, hx2, _, hz2, hcell2⟩ := (HR.out.below HBe.out).at (k := jn) (by rw [Hn.out]; omega)
            cases hx2
            obtain ⟨b, hb⟩ : ∃ b, bs[jn]? = some b := ⟨_, List.getElem?_eq_getElem (by rw [HBl.out]; exact hjl)⟩
            have cb := (HRo.out.cells hb).1
            have HY : Hid (zs[jn]? = some y) := hz2
            have HB : Hid (bs[jn]? = some b) := hb
            have hj0 : (0 : Int) ≤ (jn : Int) := by omega
            have hj1 : (jn : Int) < (n : Int) := by omega
            have hk0 : (0 : Int) ≤ (k : Int) := by omega
            have hk1 : (k : Int) < (n : Int) := by omega
            clear hz2 hb
            by_cases hyx : y = x0
            · have HYX : Hid (y = x0) := hyx
              have hyb : (y == x0) = true := by simp [hyx]
              clear hyx
              go_wp2_with fail
              go_quiet (fail)
              go_wp2_with fail
              go_roundw
              case rel =>
                refine ⟨k + 1, bs ++ [b], by omega, by go_num, by simp [HBl.out], ?_, HLk.out.old HBl.out HX.out (by rw [← HYX.out]; exact HY.out) HB.out, fun c hc => ?_, ?_⟩
                · exact RRow.push (HRo.out.keep rfl) HBl.out hlt b
                · have hcb : c ∈ bs := by
                    rcases List.mem_append.1 hc with h | h
                    · exact h
                    · simp at h; rw [h]; exact List.mem_of_getElem? HB.out
                  obtain ⟨h1, h2⟩ := HBs.out c hcb
                  exact ⟨h1, (IsBlk.setCell (IsBlk.setCell (w := wa.drewN _) h2 _ _) _ _)⟩
                · refine Below.setCell (Below.setCell (w := wa.drewN _) (HBe.out.trans ⟨rfl, rfl, rfl, Nat.le_refl _, fun _ _ => rfl⟩) ?_ _) ?_ _ <;> exact Nat.le_refl _
              case measure => simp [intOf]; omega
            · have HYX : Hid (¬ y = x0) := hyx
              have hyb : (y == x0) = false := by simp [hyx]
              clear hyx
              go_wp2_with fail
              go_quiet (fail)
              go_wp2_with fail
              go_roundw
              case rel =>
                refine ⟨jn + 1, q + nq, by omega, by go_num, rfl, fun p hp => ?_, by simp⟩
                rcases Nat.lt_succ_iff_lt_or_eq.1 hp with h | rfl
                · exact HNo.out p h
                · rw [HY.out]; exact fun e => HYX.out (Option.some.inj e)
              case measure => simp [intOf]; omega
          · have hje : jn = k := by omega
            subst hje
            have c0a : ((wa.drewN q).alloc (.cells #[.string { data := #[] }, .int .u32 0, .bool false, .int .i64 (jn : Nat), .int .i64 0] 35)).cell? ⟨w.heap.size, jn * 2, none⟩ = some v0 := oldC (w := wa.drewN q) c0 _
            have c1a : ((wa.drewN q).alloc (.cells #[.string { data := #[] }, .int .u32 0, .bool false, .int .i64 (jn : Nat), .int .i64 0] 35)).cell? ⟨w.heap.size, jn * 2 + 1, none⟩ = some v1 := oldC (w := wa.drewN q) c1 _
            have f0a : ((wa.drewN q).alloc (.cells #[.string { data := #[] }, .int .u32 0, .bool false, .int .i64 (jn : Nat), .int .i64 0] 35)).frozen? ⟨w.heap.size, jn * 2, none⟩ = false := oldF (w := wa.drewN q) hgl f0 _
            have f1a : ((wa.drewN q).alloc (.cells #[.string { data := #[] }, .int .u32 0, .bool false, .int .i64 (jn : Nat), .int .i64 0] 35)).frozen? ⟨w.heap.size, jn * 2 + 1, none⟩ = false := oldF (w := wa.drewN q) hgl f1 _
            clear c0 c1 f0 f1
            go_wp2_with fail
            go_roundw
            case rel =>
              refine ⟨jn + 1, bs ++ [wa.heap.size], by omega, by go_num, by simp [HBl.out], ?_, HLk.out.new HBl.out HX.out HNo.out (fun c hc => by have := (HBs.out c hc).2.lt; omega), fun c hc => ?_, ?_⟩
              · exact RRow.push (w := (wa.drewN q).alloc (lsObj jn)) (HRo.out.keep (Below.heap_alloc (wa.drewN q) _ _ hgl)) HBl.out hlt wa.heap.size
              · refine ⟨?_, IsBlk.setCell (IsBlk.setCell (w := (wa.drewN q).alloc (lsObj jn)) ?_ _ _) _ _⟩
                · rcases List.mem_append.1 hc with h | h
                  · exact (HBs.out c h).1
                  · simp at h; omega
                · rcases List.mem_append.1 hc with h | h
                  · exact IsBlk.below (w := wa.drewN q) (HBs.out c h).2 ((Below.refl _ _).alloc (Nat.le_refl _) _)
                  · simp at h; subst h
                    exact ⟨_, _, heap_alloc_new (wa.drewN q) _⟩
              · refine Below.setCell (Below.setCell (w := (wa.drewN q).alloc (lsObj jn)) (Below.alloc (HBe.out.trans (c := wa.drewN q) ⟨rfl, rfl, rfl, Nat.le_refl _, fun _ _ => rfl⟩) HBe.out.size _) ?_ _) ?_ _ <;> exact Nat.le_refl _
            case measure => simp [intOf]; omega
      · have hk' : k = n := by omega
        subst hk'
        go_wp2_with fail
        go_ret
        exact ⟨⟨_, bs, rfl, HBl.out, HLk.out, HBs.out, Or.inr ⟨rfl, HRo.out⟩⟩, HBe.out⟩

end Go.Proofs.Qxb6604247a
