import Derived.Test.YbulkcgfiS3
import Derived.ChangeKeysEq
namespace Go.Proofs.Ybulkcgfi
open Go.RowKit
set_option linter.unusedVariables false
set_option linter.unusedSimpArgs false
theorem part_int (t : TypeId) (k : IntKind) (hu : Yba.prog.underlying t = some (.int k)) (xs : Array Value) (off : Nat) (v : Value) (w : World) (h : xs[off]? = some v) : (part t xs off).run Yba.prog w = .ok v w := by
  have hagg : (isAgg t).run Yba.prog w = .ok false w := by
    unfold isAgg
    rw [Sem.run_bind, run_underlying hu w]
    simp
  unfold part
  rw [Sem.run_bind, hagg]
  simp [h]
theorem equal_int (D d : Nat) (hD : D = d + 1) (t : TypeId) (k k' : IntKind) (hu : Yba.prog.underlying t = some (.int k')) (a b : Int) (w : World) : (Op.equalIn D t (.int k a) (.int k b)).run Yba.prog w = .ok (a == b) w := by
  subst hD
  rw [run_equalIn_int w d t k k' a b hu]
theorem idc_at (l : List UInt8) (i : Nat) (v : UInt8) (h : l[i]? = some v) : (idc l).toArray[i]? = some (.int .u8 v.toNat) := by
  simp [idc, h]
theorem items_eq (d : Nat) (xs ys : List UInt8) (w : World) : ∀ is : List Nat, (∀ i ∈ is, i < xs.length ∧ i < ys.length) → (Op.eqItems (d + 1) 5 1 (idc xs).toArray (idc ys).toArray is).run Yba.prog w = .ok (is.all fun i => xs[i]? == ys[i]?) w
  | [], _ => by simp [Op.eqItems]
  | i :: is, h => by
    obtain ⟨h1, h2⟩ := h i (by simp)
    have e1 : xs[i]? = some xs[i] := List.getElem?_eq_getElem h1
    have e2 : ys[i]? = some ys[i] := List.getElem?_eq_getElem h2
    have hp := part_int 5 .u8 Yba.underlying5 (idc xs).toArray (i * 1) _ w (by rw [Nat.mul_one]; exact idc_at xs i _ e1)
    have hq := part_int 5 .u8 Yba.underlying5 (idc ys).toArray (i * 1) _ w (by rw [Nat.mul_one]; exact idc_at ys i _ e2)
    have ih := items_eq d xs ys w is (fun j hj => h j (by simp [hj]))
    simp only [Op.eqItems, Sem.run_bind, hp, hq, Result.andThen_ok, equal_int (d + 1) d rfl 5 .u8 .u8 Yba.underlying5 _ _ w]
    by_cases hxy : xs[i] = ys[i]
    · have hb : ((xs[i].toNat : Int) == (ys[i].toNat : Int)) = true := by simp [hxy]
      simp only [hb]
      simp [ih, e1, e2, hxy]
    · have hb : ((xs[i].toNat : Int) == (ys[i].toNat : Int)) = false := by
        have : xs[i].toNat ≠ ys[i].toNat := fun e => hxy (UInt8.toNat_inj.1 e)
        simp; omega
      simp only [hb]
      simp [e1, e2, hxy]
theorem cells5 : Yba.prog.cellsOf 5 = 1 := by kernel_rfl
theorem eq26_all (xs ys : List UInt8) (hx : xs.length = 32) (hy : ys.length = 32) : ((List.range 32).all fun i => xs[i]? == ys[i]?) = decide (xs = ys) := by
  by_cases h : xs = ys
  · subst h; simp
  · rw [decide_eq_false h, Bool.eq_false_iff]
    intro ha
    refine h (List.ext_getElem? (fun i => ?_))
    by_cases hi : i < 32
    · have := (List.all_eq_true.1 ha) i (List.mem_range.2 hi)
      simpa using this
    · rw [List.getElem?_eq_none (by omega), List.getElem?_eq_none (by omega)]
theorem equal26 (D d : Nat) (hD : D = d + 2) (xs ys : List UInt8) (hx : xs.length = 32) (hy : ys.length = 32) (w : World) : (Op.equalIn D 26 (.agg (idc xs).toArray) (.agg (idc ys).toArray)).run Yba.prog w = .ok (decide (xs = ys)) w := by
  subst hD
  have hs : (Yba.prog.info? 5).isSome = true := by kernel_rfl
  obtain ⟨i0, hi⟩ := Option.isSome_iff_exists.1 hs
  rw [run_equalIn_array w (d + 1) _ _ Yba.underlying26 hi, cells5, ← eq26_all xs ys hx hy]
  exact items_eq d xs ys w _ (fun i hi => by rw [hx, hy]; exact ⟨List.mem_range.1 hi, List.mem_range.1 hi⟩)
theorem eqd26 (xs ys : List UInt8) (hx : xs.length = 32) (hy : ys.length = 32) (w : World) : (Op.equalIn 10000 26 (.agg (idc xs).toArray) (.agg (idc ys).toArray)).run Yba.prog w = .ok (decide (xs = ys)) w := equal26 10000 9998 (by decide) xs ys hx hy w
theorem eql26 (xs ys : List UInt8) (hx : xs.length = 32) (hy : ys.length = 32) (w : World) : (binOp .eql 26 (.agg (idc xs).toArray) (.agg (idc ys).toArray)).run Yba.prog w = .ok (.bool (decide (xs = ys))) w := by
  rw [run_eql_struct, eqd26 xs ys hx hy]
  simp
theorem neq26 (xs ys : List UInt8) (hx : xs.length = 32) (hy : ys.length = 32) (w : World) : (binOp .neq 26 (.agg (idc xs).toArray) (.agg (idc ys).toArray)).run Yba.prog w = .ok (.bool (!decide (xs = ys))) w := by
  rw [run_neq_struct, eqd26 xs ys hx hy]
  simp
end Go.Proofs.Ybulkcgfi
