import Derived.Test.YbulkcggyDoorK2
import Derived.ChangeKeysEq
import Derived.MapKept
import Derived.Maps.RangeRun
namespace Go.Proofs.YbulkcggyDoor
open Go.RowKit
set_option linter.unusedVariables false
set_option linter.unusedSimpArgs false
set_option maxRecDepth 100000
theorem part_int (t : TypeId) (k : IntKind) (hu : Ybad.prog.underlying t = some (.int k)) (xs : Array Value) (off : Nat) (v : Value) (w : World) (h : xs[off]? = some v) : (part t xs off).run Ybad.prog w = .ok v w := by
  have hagg : (isAgg t).run Ybad.prog w = .ok false w := by
    unfold isAgg
    rw [Sem.run_bind, run_underlying hu w]
    simp
  unfold part
  rw [Sem.run_bind, hagg]
  simp [h]
theorem part_ptr (t e : TypeId) (hu : Ybad.prog.underlying t = some (.pointer e)) (xs : Array Value) (off : Nat) (v : Value) (w : World) (h : xs[off]? = some v) : (part t xs off).run Ybad.prog w = .ok v w := by
  have hagg : (isAgg t).run Ybad.prog w = .ok false w := by
    unfold isAgg
    rw [Sem.run_bind, run_underlying hu w]
    simp
  unfold part
  rw [Sem.run_bind, hagg]
  simp [h]
theorem part_agg (t : TypeId) (fs : Array Field) (n : Nat) (hu : Ybad.prog.underlying t = some (.struct fs)) (hn : (Ybad.prog.info? t).map (·.size) = some n) (xs : Array Value) (off : Nat) (w : World) : (part t xs off).run Ybad.prog w = .ok (.agg (xs.extract off (off + n))) w := by
  have hagg : (isAgg t).run Ybad.prog w = .ok true w := by
    unfold isAgg
    rw [Sem.run_bind, run_underlying hu w]
    simp
  cases hq : Ybad.prog.info? t with
  | none => simp [hq] at hn
  | some i =>
    have hs : i.size = n := by simpa [hq] using hn
    unfold part
    rw [Sem.run_bind, hagg]
    simp [sizeOf, typeInfo, hq, hs]
theorem equal_int (D d : Nat) (hD : D = d + 1) (t : TypeId) (k k' : IntKind) (hu : Ybad.prog.underlying t = some (.int k')) (a b : Int) (w : World) : (Op.equalIn D t (.int k a) (.int k b)).run Ybad.prog w = .ok (a == b) w := by
  subst hD
  rw [run_equalIn_int w d t k k' a b hu]
theorem equal_ptr (D d : Nat) (hD : D = d + 1) (w : World) : (Op.equalIn D 25 (.pointer none) (.pointer none)).run Ybad.prog w = .ok true w := by
  subst hD
  obtain ⟨T, h1, h2⟩ := Ybad.loc
  simp [Op.equalIn, run_underlying h1]
def tv (x : Int) : Value := .agg #[.int .u64 0, .int .i64 x, .pointer none]
theorem eq27 (D d : Nat) (hD : D = d + 2) (x y : Int) (w : World) : (Op.equalIn D 27 (tv x) (tv y)).run Ybad.prog w = .ok (x == y) w := by
  have e0 := equal_int (d + 1) d rfl 24 .u64 .u64 Ybad.underlying24 0 0 w
  have e1 := equal_int (d + 1) d rfl 2 .i64 .i64 Ybad.underlying2 x y w
  have e2 := equal_ptr (d + 1) d rfl w
  have p0 := fun x => part_int 24 .u64 Ybad.underlying24 #[.int .u64 0, .int .i64 x, .pointer none] 0 _ w rfl
  have p1 := fun x => part_int 2 .i64 Ybad.underlying2 #[.int .u64 0, .int .i64 x, .pointer none] 1 _ w rfl
  have p2 := fun x => part_ptr 25 _ Ybad.underlying25 #[.int .u64 0, .int .i64 x, .pointer none] 2 _ w rfl
  subst hD
  unfold tv
  rw [run_equalIn_struct w (d + 1) 27 _ _ (by kernel_rfl) (by kernel_rfl), show (Ybad.prog.fieldsOf 27).toList = [⟨"wall", 24, 0, false, "", "time", 0⟩, ⟨"ext", 2, 1, false, "", "time", 8⟩, ⟨"loc", 25, 2, false, "", "time", 16⟩] by kernel_rfl]
  simp [Op.eqFields, Sem.run_bind, p0, p1, p2, e0, e1, e2]
  by_cases h : x = y <;> simp [h]
/-- The key of an option: its expiry, its strike, its right. -/
def kv (x k r : Int) : Value := .agg #[.int .u64 0, .int .i64 x, .pointer none, .int .i64 k, .int .i64 0, .int .i64 r]
theorem eq31 (D d : Nat) (hD : D = d + 2) (x y : Int) (w : World) : (Op.equalIn D 31 (.agg #[.int .i64 x, .int .i64 0]) (.agg #[.int .i64 y, .int .i64 0])).run Ybad.prog w = .ok (x == y) w := by
  have e0 := equal_int (d + 1) d rfl 2 .i64 .i64 Ybad.underlying2 x y w
  have e1 := equal_int (d + 1) d rfl 3 .i64 .i64 Ybad.underlying3 0 0 w
  have p0 := fun x => part_int 2 .i64 Ybad.underlying2 #[.int .i64 x, .int .i64 0] 0 _ w rfl
  have p1 := fun x => part_int 3 .i64 Ybad.underlying3 #[.int .i64 x, .int .i64 0] 1 _ w rfl
  subst hD
  rw [run_equalIn_struct w (d + 1) 31 _ _ (by kernel_rfl) (by kernel_rfl), show (Ybad.prog.fieldsOf 31).toList = [⟨"coef", 2, 0, false, "", "example.com/quorumprice/quorumprice", 0⟩, ⟨"scale", 3, 1, false, "", "example.com/quorumprice/quorumprice", 8⟩] by kernel_rfl]
  simp [Op.eqFields, Sem.run_bind, p0, p1, e0, e1]
  by_cases h : x = y <;> simp [h]
theorem size27 : (Ybad.prog.info? 27).map (·.size) = some 3 := by kernel_rfl
theorem size31 : (Ybad.prog.info? 31).map (·.size) = some 2 := by kernel_rfl
theorem eq57 (D d : Nat) (hD : D = d + 3) (x k r y l q : Int) (w : World) : (Op.equalIn D 57 (kv x k r) (kv y l q)).run Ybad.prog w = .ok (x == y && k == l && r == q) w := by
  have e0 := eq27 (d + 2) d rfl x y w
  have e1 := eq31 (d + 2) d rfl k l w
  have e2 := equal_int (d + 2) (d + 1) rfl 38 .i64 .i64 Ybad.underlying38 r q w
  have p0 := fun x k r => part_agg 27 _ 3 Ybad.underlying27 size27 #[.int .u64 0, .int .i64 x, .pointer none, .int .i64 k, .int .i64 0, .int .i64 r] 0 w
  have p1 := fun x k r => part_agg 31 _ 2 Ybad.underlying31 size31 #[.int .u64 0, .int .i64 x, .pointer none, .int .i64 k, .int .i64 0, .int .i64 r] 3 w
  have p2 := fun x k r => part_int 38 .i64 Ybad.underlying38 #[.int .u64 0, .int .i64 x, .pointer none, .int .i64 k, .int .i64 0, .int .i64 r] 5 _ w rfl
  unfold tv at e0
  subst hD
  unfold kv
  rw [run_equalIn_struct w (d + 2) 57 _ _ (by kernel_rfl) (by kernel_rfl), show (Ybad.prog.fieldsOf 57).toList = [⟨"expiry", 27, 0, false, "", "example.com/quorumprice/quorumprice", 0⟩, ⟨"strike", 31, 3, false, "", "example.com/quorumprice/quorumprice", 24⟩, ⟨"right", 38, 5, false, "", "example.com/quorumprice/quorumprice", 40⟩] by kernel_rfl]
  simp [Op.eqFields, Sem.run_bind, p0, p1, p2, e0, e1, e2]
  by_cases h : x = y <;> by_cases h' : k = l <;> by_cases h'' : r = q <;> simp [h, h', h'']
theorem chk_plain (em : Bool) (D d : Nat) (hD : D = d + 1) (t : TypeId) (v : Value) (w : World) (h : (∃ k, Ybad.prog.underlying t = some (.int k)) ∨ ∃ e, Ybad.prog.underlying t = some (.pointer e)) : (Instr.checkKey em D t v).run Ybad.prog w = .ok () w := by
  subst hD
  rcases h with ⟨k, h⟩ | ⟨e, h⟩
  · simp [Instr.checkKey, run_underlying h]
  · simp [Instr.checkKey, run_underlying h]
theorem chk27 (em : Bool) (D d : Nat) (hD : D = d + 2) (x : Int) (w : World) : (Instr.checkKey em D 27 (tv x)).run Ybad.prog w = .ok () w := by
  have e0 := chk_plain em (d + 1) d rfl 24 (.int .u64 0) w (Or.inl ⟨_, Ybad.underlying24⟩)
  have e1 := chk_plain em (d + 1) d rfl 2 (.int .i64 x) w (Or.inl ⟨_, Ybad.underlying2⟩)
  have e2 := chk_plain em (d + 1) d rfl 25 (.pointer none) w (Or.inr ⟨_, Ybad.underlying25⟩)
  have p0 := part_int 24 .u64 Ybad.underlying24 #[.int .u64 0, .int .i64 x, .pointer none] 0 _ w rfl
  have p1 := part_int 2 .i64 Ybad.underlying2 #[.int .u64 0, .int .i64 x, .pointer none] 1 _ w rfl
  have p2 := part_ptr 25 _ Ybad.underlying25 #[.int .u64 0, .int .i64 x, .pointer none] 2 _ w rfl
  subst hD
  unfold tv
  rw [Instr.checkKey]
  simp [run_underlying Ybad.underlying27, p0, p1, p2, e0, e1, e2]
theorem chk31 (em : Bool) (D d : Nat) (hD : D = d + 2) (x : Int) (w : World) : (Instr.checkKey em D 31 (.agg #[.int .i64 x, .int .i64 0])).run Ybad.prog w = .ok () w := by
  have e0 := chk_plain em (d + 1) d rfl 2 (.int .i64 x) w (Or.inl ⟨_, Ybad.underlying2⟩)
  have e1 := chk_plain em (d + 1) d rfl 3 (.int .i64 0) w (Or.inl ⟨_, Ybad.underlying3⟩)
  have p0 := part_int 2 .i64 Ybad.underlying2 #[.int .i64 x, .int .i64 0] 0 _ w rfl
  have p1 := part_int 3 .i64 Ybad.underlying3 #[.int .i64 x, .int .i64 0] 1 _ w rfl
  subst hD
  rw [Instr.checkKey]
  simp [run_underlying Ybad.underlying31, p0, p1, e0, e1]
theorem chk57 (em : Bool) (D d : Nat) (hD : D = d + 3) (x k r : Int) (w : World) : (Instr.checkKey em D 57 (kv x k r)).run Ybad.prog w = .ok () w := by
  have e0 := chk27 em (d + 2) d rfl x w
  have e1 := chk31 em (d + 2) d rfl k w
  have e2 := chk_plain em (d + 2) (d + 1) rfl 38 (.int .i64 r) w (Or.inl ⟨_, Ybad.underlying38⟩)
  have p0 := part_agg 27 _ 3 Ybad.underlying27 size27 #[.int .u64 0, .int .i64 x, .pointer none, .int .i64 k, .int .i64 0, .int .i64 r] 0 w
  have p1 := part_agg 31 _ 2 Ybad.underlying31 size31 #[.int .u64 0, .int .i64 x, .pointer none, .int .i64 k, .int .i64 0, .int .i64 r] 3 w
  have p2 := part_int 38 .i64 Ybad.underlying38 #[.int .u64 0, .int .i64 x, .pointer none, .int .i64 k, .int .i64 0, .int .i64 r] 5 _ w rfl
  unfold tv at e0
  subst hD
  unfold kv
  rw [Instr.checkKey]
  simp [run_underlying Ybad.underlying57, p0, p1, p2, e0, e1, e2]
end Go.Proofs.YbulkcggyDoor
