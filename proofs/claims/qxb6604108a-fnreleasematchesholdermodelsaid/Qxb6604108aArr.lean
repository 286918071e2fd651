import Derived.Test.Qxb6604108aBase
namespace Go.Proofs.Qxb6604108a
open Go.RowKit

theorem guard41 : Try.prog.eqGuardType Try.prog.depth 41 = false := by kernel_rfl
theorem guard56 : Try.prog.eqGuardType Try.prog.depth 56 = false := by kernel_rfl
theorem size40 (w : World) : (sizeOf 40).run Try.prog w = .ok 1 w := by kernel_rfl

theorem eq41 (w : World) (d : Nat) (x0 x1 x2 y0 y1 y2 : Int) :
    (Op.equalIn (d + 2) 41 (.agg #[.int .u64 x0, .int .u64 x1, .int .u64 x2]) (.agg #[.int .u64 y0, .int .u64 y1, .int .u64 y2])).run Try.prog w = .ok ((x0 == y0) && ((x1 == y1) && (x2 == y2))) w := by
  have p0 : ∀ (w : World) (a b c : Value), (part 40 #[a, b, c] 0).run Try.prog w = .ok a w := fun _ _ _ _ => by kernel_rfl
  have p1 : ∀ (w : World) (a b c : Value), (part 40 #[a, b, c] 1).run Try.prog w = .ok b w := fun _ _ _ _ => by kernel_rfl
  have p2 : ∀ (w : World) (a b c : Value), (part 40 #[a, b, c] 2).run Try.prog w = .ok c w := fun _ _ _ _ => by kernel_rfl
  have q : ∀ (w : World) (a b : Int), (Op.equalIn (d + 1) 40 (.int .u64 a) (.int .u64 b)).run Try.prog w = .ok (a == b) w := fun w a b => run_equalIn_int w d 40 .u64 .u64 a b Try.underlying40
  rw [Op.equalIn]
  simp only [Sem.run_bind, run_underlying Try.underlying41, Result.andThen_ok, size40, Std.Legacy.Range.forIn_eq_forIn_range', Std.Legacy.Range.size, Nat.sub_zero, Nat.add_one_sub_one, Nat.div_one]
  by_cases h0 : x0 = y0 <;> by_cases h1 : x1 = y1 <;> by_cases h2 : x2 = y2 <;> simp [List.range', p0, p1, p2, q, h0, h1, h2]

/-- Are two keys one? -/
def keyEq (x y : Key) : Bool := (x.1 == y.1) && ((x.2.1 == y.2.1) && (x.2.2 == y.2.2))
theorem keyEq_iff (x y : Key) : keyEq x y = true ↔ x = y := by
  obtain ⟨a, b, c⟩ := x
  obtain ⟨d, e, f⟩ := y
  simp [keyEq]

/-- '!=' on two keys: arrays of three. -/
theorem neq41 (w : World) (x y : Key) : (binOp .neq 41 (.agg #[.int .u64 x.1, .int .u64 x.2.1, .int .u64 x.2.2]) (.agg #[.int .u64 y.1, .int .u64 y.2.1, .int .u64 y.2.2])).run Try.prog w = .ok (.bool (!(keyEq x y))) w := by
  rw [run_neq_struct, eq41]
  simp [keyEq, Result.andThen]
/-- '!=' on two keys: structs of three fields. -/
theorem neq56 (w : World) (x y : Key) : (binOp .neq 56 (.agg #[.int .u64 x.1, .int .u64 x.2.1, .int .u64 x.2.2]) (.agg #[.int .u64 y.1, .int .u64 y.2.1, .int .u64 y.2.2])).run Try.prog w = .ok (.bool (!(keyEq x y))) w := by
  have p0 : ∀ (w : World) (a b c : Value), (part 40 #[a, b, c] 0).run Try.prog w = .ok a w := fun _ _ _ _ => by kernel_rfl
  have p1 : ∀ (w : World) (a b c : Value), (part 54 #[a, b, c] 1).run Try.prog w = .ok b w := fun _ _ _ _ => by kernel_rfl
  have p2 : ∀ (w : World) (a b c : Value), (part 40 #[a, b, c] 2).run Try.prog w = .ok c w := fun _ _ _ _ => by kernel_rfl
  have q : ∀ (w : World) (a b : Int), (Op.equalIn 9999 40 (.int .u64 a) (.int .u64 b)).run Try.prog w = .ok (a == b) w := fun w a b => run_equalIn_int w 9998 40 .u64 .u64 a b Try.underlying40
  have q' : ∀ (w : World) (a b : Int), (Op.equalIn 9999 54 (.int .u64 a) (.int .u64 b)).run Try.prog w = .ok (a == b) w := fun w a b => run_equalIn_int w 9998 54 .u64 .u64 a b Try.underlying54
  have hfs : (Try.prog.fieldsOf 56).toList.map (fun f => (f.name, f.type, f.offset)) = [("id", 40, 0), ("addr", 54, 1), ("version", 40, 2)] := by kernel_rfl
  have ht : Try.prog.underlying 56 = some (.struct (Try.prog.fieldsOf 56)) := by kernel_rfl
  have hp : Try.prog.stoodInHeld 56 = false := by kernel_rfl
  rw [run_neq_struct, run_equalIn_struct w 9999 56 _ _ ht hp]
  generalize (Try.prog.fieldsOf 56).toList = fs at hfs ⊢
  match fs, hfs with
  | [⟨n0, t0, o0, _, _, _, _⟩, ⟨n1, t1, o1, _, _, _, _⟩, ⟨n2, t2, o2, _, _, _, _⟩], hfs => ?_
  simp at hfs
  obtain ⟨⟨rfl, rfl, rfl⟩, ⟨rfl, rfl, rfl⟩, ⟨rfl, rfl, rfl⟩⟩ := hfs
  by_cases h0 : x.1 = y.1 <;> by_cases h1 : x.2.1 = y.2.1 <;> by_cases h2 : x.2.2 = y.2.2 <;> simp [Op.eqFields, p0, p1, p2, q, q', h0, h1, h2, keyEq]

end Go.Proofs.Qxb6604108a
