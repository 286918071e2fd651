import Derived.Test.Qxb6604108aR3
namespace Go.Proofs.Qxb6604108a
open Go.RowKit
set_option linter.unusedVariables false
set_option linter.unusedSimpArgs false

/-- What a reader of a slice of pointers to sets is told. -/
def PReads (w : World) (a : Option Addr) (bs : List Nat) : Prop :=
  ∀ i, i < bs.length → ∃ g off, a = some ⟨g, off, none⟩ ∧ g < w.heap.size ∧ ∀ (j b : Nat), bs[j]? = some b → w.cell? ⟨g, off + j, none⟩ = some (.pointer (some ⟨b, 0, none⟩)) ∧ IsBlk w b

theorem count_take (bs : List Nat) (b k : Nat) {c : Nat} (h : bs[k]? = some c) : (bs.take (k + 1)).count b = (bs.take k).count b + if c == b then 1 else 0 := by
  rw [List.take_add_one, h, List.count_append]
  simp [List.count_cons]

set_option maxHeartbeats 400000 in
theorem countPtr_any (a : Option Addr) (n cap : Nat) (bs : List Nat) (b : Nat) (w : World) (Hn : Hid (bs.length = n)) (hp : PReads w a bs) (hb : IsBlk w b) (hn : n ≤ 1048576) :
    Calls Try.prog 13 #[.slice a n cap, .pointer (some ⟨b, 0, none⟩)] w fun e w' => e = .returned (.int .i64 (bs.count b : Nat)) ∧ w' = w := by
  go_enter Try.func13, Try.ntmps13
  go_wp2_with fail
  go_loop [5, 6] (fun z i => ∃ k c : Nat, k ≤ n ∧ c ≤ k ∧ i = .int .i64 k ∧ z = .int .i64 c ∧ (bs.take k).count b = c) (fun _ i => n - (intOf i).toNat)
  case atStart => exact ⟨0, 0, Nat.zero_le _, Nat.le_refl _, rfl, rfl, by simp⟩
  case round =>
    obtain ⟨k, c, hk, hck, rfl, rfl, hc⟩ := hrel
    have HC : Hid ((bs.take k).count b = c) := hc
    clear hc
    by_cases hlt : k < n
    · obtain ⟨g, off, rfl, hg, hcc⟩ := hp k (by rw [Hn.out]; exact hlt)
      obtain ⟨x, hx⟩ : ∃ x, bs[k]? = some x := ⟨_, List.getElem?_eq_getElem (by rw [Hn.out]; exact hlt)⟩
      obtain ⟨c0, hbx⟩ := hcc k x hx
      have he := eqlPtr hbx hb
      have HT := Hid.mk (count_take bs b k hx)
      by_cases hxb : (x == b) = true
      · rw [hxb] at he
        have HX : Hid ((x == b) = true) := hxb
        clear hxb hx hcc hp hb hbx
        go_wp2_with fail
        go_round
        case rel => exact ⟨k + 1, c + 1, by omega, by omega, by go_num, by go_num, by rw [HT.out, HC.out, HX.out]; rfl⟩
        case measure => simp [intOf]; omega
      · have hxb' : (x == b) = false := by simpa using hxb
        rw [hxb'] at he
        have HX : Hid ((x == b) = false) := hxb'
        clear hxb hxb' hx hcc hp hb hbx
        go_wp2_with fail
        go_round
        case rel => exact ⟨k + 1, c, by omega, by omega, by go_num, by go_num, by rw [HT.out, HC.out, HX.out]; rfl⟩
        case measure => simp [intOf]; omega
    · clear hp hb
      go_wp2_with fail
      go_ret
      have h1 := HC.out
      rw [List.take_of_length_le (by rw [Hn.out]; omega)] at h1
      exact ⟨by rw [h1]; rfl, rfl⟩

/-- A set's block is met in the bucket of its own fingerprint or nowhere. -/
theorem held_iff {w : World} {bc bm base : Nat} {st : List Bucket} (hc : Cache w bc bm base st) {s : KS} (hs : SetAt w base s) {v : Value} {ss : List KS} (hl : LookAt st s.keys v ss) : s.b ∈ ss.map (·.b) ↔ s.b ∈ (setsOf st).map (·.b) := by
  constructor
  · intro h
    obtain ⟨t, ht, e⟩ := List.mem_map.1 h
    rcases hl with ⟨j, B, hB, _, hss, _⟩ | ⟨_, hss, _⟩
    · exact List.mem_map.2 ⟨t, List.mem_flatMap.2 ⟨B, List.mem_of_getElem? hB, by rw [← hss]; exact ht⟩, e⟩
    · rw [hss] at ht; cases ht
  · intro h
    obtain ⟨t, ht, e⟩ := List.mem_map.1 h
    obtain ⟨C, hC, hCt⟩ := List.mem_flatMap.1 ht
    obtain ⟨hta, hfp⟩ := hc.set C hC t hCt
    have hfe : fpOf t.keys = fpOf s.keys := by
      obtain ⟨_, _, _, _, _, e1, _⟩ := hta
      obtain ⟨_, _, _, _, _, e2, _⟩ := hs
      rw [e, e2] at e1
      simp at e1
      exact e1.2.1.symm
    rcases hl with ⟨j, B, hB, hBf, hss, _⟩ | ⟨hno, _, _⟩
    · obtain ⟨q, hq⟩ := List.getElem?_of_mem hC
      have hqj : q = j := nodup_getElem? hc.fps (x := B.fp) (by simp [hq, hBf, ← hfe, hfp]) (by simp [hB])
      subst hqj
      rw [hB] at hq; cases hq
      rw [hss]
      exact List.mem_map.2 ⟨t, hCt, e⟩
    · exact absurd (hfp.symm.trans hfe) (hno C hC)

/-- Does the cache hold the set of block b? -/
def inSt (st : List Bucket) (b : Nat) : Bool := decide (b ∈ (setsOf st).map (·.b))
theorem inSt_true {st : List Bucket} {b : Nat} : inSt st b = true ↔ b ∈ (setsOf st).map (·.b) := by unfold inSt; exact decide_eq_true_iff
theorem inSt_false {st : List Bucket} {b : Nat} : inSt st b = false ↔ ¬ b ∈ (setsOf st).map (·.b) := by unfold inSt; exact decide_eq_false_iff_not

set_option maxHeartbeats 1000000 in
theorem zzheld_any (bc bm base : Nat) (st : List Bucket) (w : World) (hc : Cache w bc bm base st) (s : KS) (hs : SetAt w base s) (hN : ∀ B ∈ st, B.sets.length ≤ 1048576 ∧ ∀ s ∈ B.sets, 0 ≤ s.n ∧ s.n ≤ 1048576) :
    Calls Try.prog 17 #[.pointer (some ⟨bc, 0, none⟩), .pointer (some ⟨s.b, 0, none⟩)] w fun e w' => e = .returned (.bool (inSt st s.b)) ∧ ∃ q, w' = w.drewN q := by
  obtain ⟨ag, m, capB, ss, hlook, hown, hset, HC, hm⟩ := look_cases hc s.keys hN
  have HI := Hid.mk (held_iff hc hs HC.out)
  have hl : ∀ q, (Instr.lookup 50 (.map (some bm)) (.int .u64 (fpOf s.keys)) false).run Try.prog (w.drewN q) = .ok (.slice ag m capB) (w.drewN q) := fun q => by
    have := (hc.drewN q).map.look hc.nd (fpOf s.keys)
    rw [hlook] at this; exact this
  have hbx : w.cell? ⟨bc, 0, none⟩ = some (.map (some bm)) := cell_of_block hc.box 0
  obtain ⟨_, _, _, _, c1, _⟩ := hs.cells
  have hsl : Hid (ss.length = m) := show ss.length = m by have := hown.1; simpa using this
  have HO : Hid (w.ownsRow base 29 1 (.slice ag m capB) m (ss.map ptr)) := hown
  have HS : Hid (∀ t ∈ ss, IsBlk w t.b) := fun t ht => (hset t ht).1.blk
  have HB : Hid (IsBlk w s.b) := hs.blk
  clear hc hs hN hlook hown hset
  generalize fpOf s.keys = F at *
  go_enter Try.func17, Try.ntmps17
  go_wp2_with fail
  go_quiet (fail)
  go_wp2_with fail
  go_loop [6] (fun i => ∃ k : Nat, k ≤ m ∧ i = .int .i64 k ∧ ∀ t ∈ ss.take k, t.b ≠ s.b) (fun i => m - (intOf i).toNat)
  case atStart => exact ⟨0, Nat.zero_le _, rfl, by simp⟩
  case round =>
    obtain ⟨k, hk, rfl, hno⟩ := hrel
    have HNo : Hid (∀ t ∈ ss.take k, t.b ≠ s.b) := hno
    clear hno hl
    by_cases hlt : k < m
    · obtain ⟨t, hti⟩ : ∃ t, ss[k]? = some t := ⟨_, List.getElem?_eq_getElem (by rw [hsl.out]; exact hlt)⟩
      obtain ⟨g, cap', hag, _⟩ := HO.out.form (by omega)
      cases hag
      have hp : w.cell? ⟨g, k, none⟩ = some (.pointer (some ⟨t.b, 0, none⟩)) := by
        have := HO.out.cells (g := g) rfl k (ptr t) (by simp [hti])
        have hadd : (⟨g, 0, none⟩ : Addr).add k = ⟨g, k, none⟩ := by unfold Addr.add; split <;> simp_all
        rw [hadd] at this
        exact this
      have he : (binOp .eql 29 (.pointer (some ⟨t.b, 0, none⟩)) (.pointer (some ⟨s.b, 0, none⟩))).run Try.prog (w.drewN nq) = .ok (.bool (t.b == s.b)) (w.drewN nq) := eqlPtr (w := w.drewN nq) (HS.out t (List.mem_of_getElem? hti)) HB.out
      have HTI : Hid (ss[k]? = some t) := hti
      clear hti
      by_cases hxb : (t.b == s.b) = true
      · rw [hxb] at he
        have HX : Hid ((t.b == s.b) = true) := hxb
        clear hxb
        go_wp2_with fail
        go_ret
        refine ⟨ret_bool ?_, nq, rfl⟩
        symm; rw [inSt_true]
        refine HI.out.1 (List.mem_map.2 ⟨t, List.mem_of_getElem? HTI.out, ?_⟩)
        simpa using HX.out
      · have hxb' : (t.b == s.b) = false := by simpa using hxb
        rw [hxb'] at he
        have HX : Hid ((t.b == s.b) = false) := hxb'
        clear hxb hxb'
        go_wp2_with fail
        go_round
        case rel =>
          refine ⟨k + 1, by omega, by go_num, fun u hu => ?_⟩
          rw [List.take_add_one, HTI.out] at hu
          rcases List.mem_append.1 hu with hu | hu
          · exact HNo.out u hu
          · simp at hu; subst hu; simpa using HX.out
        case measure => simp [intOf]; omega
    · go_wp2_with fail
      go_ret
      refine ⟨ret_bool ?_, nq, rfl⟩
      symm; rw [inSt_false]
      intro h
      obtain ⟨t, ht, e⟩ := List.mem_map.1 (HI.out.2 h)
      have := HNo.out t (by rw [List.take_of_length_le (by rw [hsl.out]; omega)]; exact ht)
      exact this e

set_option maxHeartbeats 400000 in
theorem zzrelease_any (bc bm base : Nat) (st : List Bucket) (w : World) (hc : Cache w bc bm base st) (j i : Nat) (B : Bucket) (s : KS) (hB : st[j]? = some B) (hs : B.sets[i]? = some s) (hn1 : 1 ≤ s.n) (hn2 : s.n ≤ 1048576) (hL : B.sets.length ≤ 1048576) :
    Calls Try.prog 26 #[.pointer (some ⟨bc, 0, none⟩), .pointer (some ⟨s.b, 0, none⟩)] w fun e w' => e = .returned (.tuple #[]) ∧ ∃ st', Cache w' bc bm base st' ∧ RelAt st j i B s st' ∧ SetAt w' base ⟨s.b, s.keys, s.n - 1⟩ ∧ Off (fun k => k = bm ∨ base ≤ k) w w' := by
  have H := Hid.mk (release_any bc bm base st w hc j i B s hB hs hn1 hn2 hL)
  clear hc hB hs
  go_enter Try.func26, Try.ntmps26
  go_wp2_with (first | (go_at_call 30; refine H.out.mono ?_; rintro e w1 ⟨rfl, st', h1, h2, h3, h4⟩))
  go_end0
  exact ⟨rfl, st', h1, h2, h3, h4⟩

set_option maxHeartbeats 400000 in
theorem zzreleaseNil_any (bc : Nat) (w : World) :
    Calls Try.prog 26 #[.pointer (some ⟨bc, 0, none⟩), .pointer none] w fun e w' => e = .returned (.tuple #[]) ∧ w' = w.alloc (.cells #[.pointer none] 29) := by
  go_enter Try.func26, Try.ntmps26
  go_wp2_with (first | (go_at_call 30; refine (releaseNil_any bc _).mono ?_; rintro e w1 ⟨rfl, hw⟩; subst w1))
  go_end0
  exact ⟨rfl, rfl⟩

end Go.Proofs.Qxb6604108a
