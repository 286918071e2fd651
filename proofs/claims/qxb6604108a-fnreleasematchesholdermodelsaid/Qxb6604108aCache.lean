import Derived.Test.Qxb6604108aMap
import Derived.Deep.AppendLies
namespace Go.Proofs.Qxb6604108a
open Go.RowKit

/-! ### The fingerprint, as the program reckons it -/
def xor64 (a b : Int) : Int := bits BinOp.xor IntKind.u64 a b
def mixA (x : Int) : Int := IntKind.u64.wrap (xor64 x (x / 4294967296) * 11400714819323198485)
def mixF (x : Int) : Int := xor64 (mixA (mixA x)) (mixA (mixA x) / 4294967296)
def term (k : Key) : Int := mixF (xor64 k.2.1 (mixF (xor64 k.1 k.2.2)))
/-- The fingerprint of the first keys: each term added, wrapped at 2^64. -/
def fpFrom (f : Int) : List Key → Int
  | [] => f
  | k :: r => fpFrom (IntKind.u64.wrap (f + term k)) r
def fpOf (ks : List Key) : Int := fpFrom 0 ks
theorem fpFrom_append (f : Int) (a b : List Key) : fpFrom f (a ++ b) = fpFrom (fpFrom f a) b := by
  induction a generalizing f with
  | nil => rfl
  | cons k r ih => simp [fpFrom, ih]
theorem fpOf_take (ks : List Key) (k : Nat) (h : k < ks.length) : fpOf (ks.take (k + 1)) = IntKind.u64.wrap (fpOf (ks.take k) + term (kAt ks k)) := by
  rw [take_snocK ks k h]; unfold fpOf; rw [fpFrom_append]; rfl

/-! ### What has turned -/
/-- Block b is a set's. -/
def IsSet (w : World) (b : Nat) : Prop := ∃ cur, w.heap[b]? = some (.cells cur 60 (0, 0))
theorem IsSet.lt {w : World} {b : Nat} (h : IsSet w b) : b < w.heap.size := by obtain ⟨_, h⟩ := h; exact lt_of_blk h
theorem IsSet.keep {w w' : World} {b : Nat} (h : IsSet w b) (e : w'.heap[b]? = w.heap[b]?) : IsSet w' b := by obtain ⟨cur, h⟩ := h; exact ⟨cur, e.trans h⟩
theorem IsSet.setCell {w : World} {b : Nat} (h : IsSet w b) (p : Addr) (v : Value) : IsSet (w.setCell p v) b := by
  obtain ⟨cur, h⟩ := h
  by_cases hb : p.block = b
  · subst hb
    refine ⟨if p.spot.isSome then cur else cur.setIfInBounds p.off v, ?_⟩
    simp [World.setCell, Array.getElem?_modify, h]
  · exact ⟨cur, by rw [Below.heap_setCell _ _ _ _ (fun e => hb e.symm)]; exact h⟩
/-- Off S w w': w' is w but for new blocks and for the blocks of S. -/
structure Off (S : Nat → Prop) (w w' : World) : Prop where
  os : w'.os = w.os
  tape : w'.tape = w.tape
  output : w'.output = w.output
  size : w.heap.size ≤ w'.heap.size
  block : ∀ k, k < w.heap.size → ¬ S k → w'.heap[k]? = w.heap[k]?
  sets : ∀ b, IsSet w b → IsSet w' b
theorem Off.refl (S : Nat → Prop) (w : World) : Off S w w := ⟨rfl, rfl, rfl, Nat.le_refl _, fun _ _ _ => rfl, fun _ h => h⟩
theorem Off.trans {S T : Nat → Prop} {a b c : World} (h : Off S a b) (k : Off T b c) (hT : ∀ i, i < a.heap.size → T i → S i) : Off S a c :=
  ⟨k.os.trans h.os, k.tape.trans h.tape, k.output.trans h.output, Nat.le_trans h.size k.size, fun i hi hS => (k.block i (Nat.lt_of_lt_of_le hi h.size) (fun ht => hS (hT i hi ht))).trans (h.block i hi hS), fun b hb => k.sets b (h.sets b hb)⟩
theorem Off.of_below {S : Nat → Prop} {a b : World} (h : Below a.heap.size a b) (_hS : ∀ k, a.heap.size ≤ k → k < a.heap.size → S k) : Off S a b :=
  ⟨h.os, h.tape, h.output, h.size, fun k hk _ => h.block k hk, fun x hx => hx.keep (h.block x hx.lt)⟩
theorem Off.below {S : Nat → Prop} {a b : World} {B : Nat} (h : Off S a b) (hB : B ≤ a.heap.size) (hS : ∀ k, S k → B ≤ k) : Below B a b :=
  ⟨h.os, h.tape, h.output, h.size, fun k hk => h.block k (by omega) (fun hs => by have := hS k hs; omega)⟩
theorem Off.mono {S T : Nat → Prop} {a b : World} (h : Off S a b) (hT : ∀ k, S k → T k) : Off T a b := ⟨h.os, h.tape, h.output, h.size, fun k hk hn => h.block k hk (fun hs => hn (hT k hs)), h.sets⟩
theorem Off.drewN {S : Nat → Prop} {a b : World} (h : Off S a b) (n : Nat) : Off S a (b.drewN n) := ⟨h.os, h.tape, h.output, h.size, h.block, h.sets⟩
theorem Off.alloc {S : Nat → Prop} {a b : World} (h : Off S a b) (o : Obj) : Off S a (b.alloc o) :=
  h.trans (T := fun _ => False) ⟨rfl, rfl, rfl, by simp, fun k hk _ => Below.heap_alloc _ _ _ hk, fun x hx => hx.keep (Below.heap_alloc _ _ _ hx.lt)⟩ (fun _ _ h => h.elim)
theorem Off.setCell {S : Nat → Prop} {a b : World} (h : Off S a b) (p : Addr) (hp : p.block < a.heap.size → S p.block) (v : Value) : Off S a (b.setCell p v) :=
  h.trans (T := fun k => k = p.block) ⟨rfl, rfl, rfl, by simp [World.setCell], fun k _ hn => Below.heap_setCell _ _ _ _ hn, fun x hx => hx.setCell _ _⟩ (fun i hi e => by subst e; exact hp hi)

/-! ### The cache in memory -/
/-- A set of keys: its block, its keys, how many hold it. -/
structure KS where
  b : Nat
  keys : List Key
  n : Int
/-- A bucket: the fingerprint, the slice, its sets. -/
structure Bucket where
  fp : Int
  v : Value
  sets : List KS

def ptr (s : KS) : Value := .pointer (some ⟨s.b, 0, none⟩)

def SetAt (w : World) (base : Nat) (s : KS) : Prop :=
  base ≤ s.b ∧ s.keys.length ≤ 1048576 ∧ ∃ a cap sm, w.heap[s.b]? = some (.cells #[.slice a s.keys.length cap, .int .u64 (fpOf s.keys), .int .i64 s.n, .map (some sm)] 60 (0, 0)) ∧
    w.ownsRow base 56 3 (.slice a s.keys.length cap) s.keys.length (flat s.keys) ∧ base ≤ sm ∧ w.heap[sm]? = some (.map #[] 0)

def mapOf (st : List Bucket) : List (Int × Value) := st.map fun b => (b.fp, b.v)
def setsOf (st : List Bucket) : List KS := st.flatMap (·.sets)

structure Cache (w : World) (bc bm base : Nat) (st : List Bucket) : Prop where
  lbc : bc < base
  lbm : bm < base
  lsz : base ≤ w.heap.size
  box : w.heap[bc]? = some (.cells #[.map (some bm)] 52 (0, 0))
  map : mapIs w bm (mapOf st)
  row : ∀ B ∈ st, w.ownsRow base 29 1 B.v B.sets.length (B.sets.map ptr)
  set : ∀ B ∈ st, ∀ s ∈ B.sets, SetAt w base s ∧ fpOf s.keys = B.fp
  ne : ∀ B ∈ st, B.sets ≠ []
  fps : (st.map (·.fp)).Nodup
  rows : (st.map (·.v.ownBlock)).Nodup
  blocks : ((setsOf st).map (·.b)).Nodup

theorem mapOf_fst (st : List Bucket) : (mapOf st).map (·.1) = st.map (·.fp) := by simp [mapOf]
theorem Cache.nd {w : World} {bc bm base : Nat} {st : List Bucket} (h : Cache w bc bm base st) : ((mapOf st).map (·.1)).Nodup := by rw [mapOf_fst]; exact h.fps

theorem SetAt.lt {w : World} {base : Nat} {s : KS} (h : SetAt w base s) : s.b < w.heap.size := by
  obtain ⟨_, _, a, cap, sm, h1, _⟩ := h; exact lt_of_blk h1

/-- A set stays while no block of its own is written. -/
theorem SetAt.kept {w w' : World} {base : Nat} {s : KS} (h : SetAt w base s) {S : Nat → Prop} (hk : ∀ k, k < w.heap.size → ¬ S k → w'.heap[k]? = w.heap[k]?)
    (h1 : ¬ S s.b) (h2 : ∀ k cur, S k → w.heap[k]? ≠ some (.cells cur 56 (0, 0))) (h3 : ∀ k, S k → base ≤ k → w.heap[k]? ≠ some (.map #[] 0)) : SetAt w' base s := by
  obtain ⟨hb, hl, a, cap, sm, e1, e2, e3, e4⟩ := h
  refine ⟨hb, hl, a, cap, sm, ?_, ?_, e3, ?_⟩
  · rw [hk _ (lt_of_blk e1) h1]; exact e1
  · obtain ⟨q, e2⟩ := e2
    refine ⟨q, ?_⟩
    rcases e2 with e2 | ⟨g, cap', cur, hv, hg, hh, r⟩
    · exact Or.inl e2
    · refine Or.inr ⟨g, cap', cur, hv, hg, ?_, r⟩
      rw [hk _ (lt_of_blk hh) (fun hS => h2 _ _ hS hh)]; exact hh
  · rw [hk _ (lt_of_blk e4) (fun hS => h3 _ hS e3 e4)]; exact e4

theorem row_kept {w w' : World} {base e size : Nat} {v : Value} {n : Nat} {xs : List Value} (h : w.ownsRow base e size v n xs) {S : Nat → Prop} (hk : ∀ k, k < w.heap.size → ¬ S k → w'.heap[k]? = w.heap[k]?)
    (h2 : ∀ k, S k → v.ownBlock ≠ some k) : w'.ownsRow base e size v n xs := by
  obtain ⟨q, h⟩ := h
  refine ⟨q, ?_⟩
  rcases h with h | ⟨g, cap', cur, hv, hg, hh, r⟩
  · exact Or.inl h
  · refine Or.inr ⟨g, cap', cur, hv, hg, ?_, r⟩
    rw [hk _ (lt_of_blk hh) (fun hS => h2 _ hS (by rw [hv]; rfl))]; exact hh

/-- What lies below 'base' but for the cache's own two blocks may turn. -/
theorem Cache.keep {w w' : World} {bc bm base : Nat} {st : List Bucket} (h : Cache w bc bm base st) (hs : w.heap.size ≤ w'.heap.size) (hk : ∀ k, k < w.heap.size → (k = bc ∨ k = bm ∨ base ≤ k) → w'.heap[k]? = w.heap[k]?) : Cache w' bc bm base st := by
  have hS : ∀ k, k < w.heap.size → ¬ (¬ (k = bc ∨ k = bm ∨ base ≤ k)) → w'.heap[k]? = w.heap[k]? := fun k h1 h2 => hk k h1 (Classical.byContradiction h2)
  refine ⟨h.lbc, h.lbm, Nat.le_trans h.lsz hs, ?_, ?_, ?_, ?_, h.ne, h.fps, h.rows, h.blocks⟩
  · rw [hk _ (lt_of_blk h.box) (Or.inl rfl)]; exact h.box
  · obtain ⟨es, cl, e1, e2⟩ := h.map
    exact ⟨es, cl, by rw [hk _ (lt_of_blk e1) (Or.inr (Or.inl rfl))]; exact e1, e2⟩
  · intro B hB
    refine row_kept (h.row B hB) (S := fun k => ¬ (k = bc ∨ k = bm ∨ base ≤ k)) hS (fun k hk e => hk (Or.inr (Or.inr ?_)))
    exact ((h.row B hB).lt k e).1
  · intro B hB s hs'
    obtain ⟨h1, h2⟩ := h.set B hB s hs'
    refine ⟨?_, h2⟩
    obtain ⟨hb, hl, a, cap, sm, e1, e2, e3, e4⟩ := h1
    refine ⟨hb, hl, a, cap, sm, ?_, ?_, e3, ?_⟩
    · rw [hk _ (lt_of_blk e1) (Or.inr (Or.inr hb))]; exact e1
    · exact row_kept e2 (S := fun k => ¬ (k = bc ∨ k = bm ∨ base ≤ k)) hS (fun k hk e => hk (Or.inr (Or.inr (e2.lt k e).1)))
    · rw [hk _ (lt_of_blk e4) (Or.inr (Or.inr e3))]; exact e4

theorem Cache.below {w w' : World} {bc bm base : Nat} {st : List Bucket} (h : Cache w bc bm base st) (hb : Below w.heap.size w w') : Cache w' bc bm base st := h.keep hb.size (fun k hk _ => hb.block k hk)

end Go.Proofs.Qxb6604108a
