import Derived.Test.Qxb6604108aCache
namespace Go.Proofs.Qxb6604108a
open Go.RowKit

set_option maxHeartbeats 400000 in
theorem mix_any (x : Int) (w : World) :
    Calls Try.prog 31 #[.int .u64 x] w fun e w' => e = .returned (.int .u64 (mixF x)) ∧ w' = w := by
  go_enter Try.func31, Try.ntmps31
  go_wp2
  go_ret
  exact ⟨rfl, rfl⟩

set_option maxHeartbeats 400000 in
theorem newCache_any (w : World) :
    Calls Try.prog 10 #[] w fun e w' => e = .returned (.pointer (some ⟨w.heap.size + 1, 0, none⟩)) ∧ w' = (w.alloc (.map #[] 0)).alloc (.cells #[.map (some w.heap.size)] 52) := by
  have hmm := @run_makeMap Try.prog
  go_enter Try.func10, Try.ntmps10
  go_wp2
  go_ret
  exact ⟨rfl, rfl⟩

set_option maxHeartbeats 400000 in
theorem holders_any (b : Nat) (w : World) (v : Value) (h : w.cell? ⟨b, 2, none⟩ = some v) :
    Calls Try.prog 16 #[.pointer (some ⟨b, 0, none⟩)] w fun e w' => e = .returned v ∧ w' = w := by
  go_enter Try.func16, Try.ntmps16
  go_wp2
  go_ret
  exact ⟨rfl, rfl⟩

set_option maxHeartbeats 400000 in
theorem fingerprint_any (b : Nat) (w : World) (v : Value) (h : w.cell? ⟨b, 1, none⟩ = some v) :
    Calls Try.prog 21 #[.pointer (some ⟨b, 0, none⟩)] w fun e w' => e = .returned v ∧ w' = w := by
  go_enter Try.func21, Try.ntmps21
  go_wp2
  go_ret
  exact ⟨rfl, rfl⟩

theorem len58 (w : World) (sm : Nat) (t : TypeId) (h : w.heap[sm]? = some (.map #[] 0)) : (Builtin.len_ #[58] t #[.map (some sm)]).run Try.prog w = .ok (.int .i64 0) w := by
  simp [Builtin.len_, run_underlying Try.underlying58, MapKept.run_getObj_map h, Result.andThen]
  rfl

set_option maxHeartbeats 400000 in
theorem sums_any (b sm : Nat) (w : World) (h : w.cell? ⟨b, 3, none⟩ = some (.map (some sm))) (hs : w.heap[sm]? = some (.map #[] 0)) :
    Calls Try.prog 15 #[.pointer (some ⟨b, 0, none⟩)] w fun e w' => e = .returned (.int .i64 0) ∧ w' = w := by
  have hl := fun t => len58 w sm t hs
  clear hs
  go_enter Try.func15, Try.ntmps15
  go_wp2
  go_ret
  exact ⟨rfl, rfl⟩

set_option maxHeartbeats 400000 in
theorem fingerprints_any (bc bm base : Nat) (st : List Bucket) (w : World) (hc : Cache w bc bm base st) :
    Calls Try.prog 22 #[.pointer (some ⟨bc, 0, none⟩)] w fun e w' => e = .returned (.int .i64 st.length) ∧ w' = w := by
  have hl := fun t => hc.map.size t
  have hb := cell_of_block hc.box 0
  simp only [mapOf, List.length_map] at hl
  clear hc
  go_enter Try.func22, Try.ntmps22
  go_wp2
  go_ret
  exact ⟨rfl, rfl⟩

set_option maxHeartbeats 400000 in
theorem bucketLen_any (bc bm base : Nat) (st : List Bucket) (w : World) (fp : Int) (hc : Cache w bc bm base st) (a : Option Addr) (n cap : Nat) (hv : Hid (lookV (mapOf st) fp = .slice a n cap)) :
    Calls Try.prog 23 #[.pointer (some ⟨bc, 0, none⟩), .int .u64 fp] w fun e w' => e = .returned (.int .i64 n) ∧ w' = w := by
  have hl := hc.map.look hc.nd fp
  rw [hv.out] at hl
  have hb := cell_of_block hc.box 0
  clear hc
  go_enter Try.func23, Try.ntmps23
  go_wp2
  go_ret
  exact ⟨rfl, rfl⟩

end Go.Proofs.Qxb6604108a
