import Derived.Test.Qxb6604108aRows
import Derived.WalkKit
import Derived.WalkSpells
import Derived.WalkLawsBesides
import Derived.BigQuiet
import Derived.Deep.QuietTactic
namespace Go.Proofs.Qxb6604108a
open Go.RowKit

/-- One key: id, addr, version. -/
abbrev Key := Int × Int × Int

/-- Key number i of a list. -/
def kAt (ks : List Key) (i : Nat) : Key := ks.getD i (0, 0, 0)

/-- The three cells of each key, laid one behind another. -/
def flat : List Key → List Value
  | [] => []
  | k :: r => .int .u64 k.1 :: .int .u64 k.2.1 :: .int .u64 k.2.2 :: flat r

/-- What a reader of a slice of keys is told: the cells of each key. -/
def Reads (w : World) (a : Option Addr) (ks : List Key) : Prop :=
  ∀ i, i < ks.length → ∃ b off, a = some ⟨b, off, none⟩ ∧ b < w.heap.size ∧ ∀ j, j < ks.length →
    w.cell? ⟨b, off + j * 3, none⟩ = some (.int .u64 (kAt ks j).1) ∧ w.cell? ⟨b, off + j * 3 + 1, none⟩ = some (.int .u64 (kAt ks j).2.1) ∧ w.cell? ⟨b, off + j * 3 + 2, none⟩ = some (.int .u64 (kAt ks j).2.2)

theorem Reads.drewN {w : World} {a : Option Addr} {ks : List Key} (h : Reads w a ks) (n : Nat) : Reads (w.drewN n) a ks := h

end Go.Proofs.Qxb6604108a
