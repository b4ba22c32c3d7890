import Derived.Test.YbulkcgfiFmtG14
import Derived.ChangeKeysEq
namespace Go.Proofs.YbulkcgfiFmt
open Go.RowKit Go.Extern.Stop Go.Stop Go.Extern
set_option linter.unusedVariables false
set_option linter.unusedSimpArgs false
theorem part_int (t : TypeId) (k : IntKind) (hu : Ybaf.prog.underlying t = some (.int k)) (xs : Array Value) (off : Nat) (v : Value) (w : World) (h : xs[off]? = some v) : (part t xs off).run Ybaf.prog w = .ok v w := by
  have hagg : (isAgg t).run Ybaf.prog w = .ok false w := by
    unfold isAgg
    rw [Sem.run_bind, run_underlying hu w]
    simp
  unfold part
  rw [Sem.run_bind, hagg]
  simp [h]
theorem equal_int (D d : Nat) (hD : D = d + 1) (t : TypeId) (k k' : IntKind) (hu : Ybaf.prog.underlying t = some (.int k')) (a : Int) (w : World) : (Op.equalIn D t (.int k a) (.int k a)).run Ybaf.prog w = .ok true w := by
  subst hD
  rw [run_equalIn_int w d t k k' a a hu]; simp
theorem items_refl (d : Nat) (xs : Array Value) (w : World) : ∀ is : List Nat, (∀ i ∈ is, ∃ a, xs[i]? = some (.int .u8 a)) → (Op.eqItems (d + 1) 5 1 xs xs is).run Ybaf.prog w = .ok true w
  | [], _ => by simp [Op.eqItems]
  | i :: is, h => by
    obtain ⟨a, ha⟩ := h i (by simp)
    have hp := part_int 5 .u8 Ybaf.underlying5 xs (i * 1) _ w (by rw [Nat.mul_one]; exact ha)
    simp only [Op.eqItems, Sem.run_bind, hp, Result.andThen_ok, equal_int (d + 1) d rfl 5 .u8 .u8 Ybaf.underlying5 a w]
    simpa using items_refl d xs w is (fun j hj => h j (by simp [hj]))
theorem cells5' : Ybaf.prog.cellsOf 5 = 1 := by kernel_rfl
theorem array_refl (D d n : Nat) (hD : D = d + 2) (t : TypeId) (hu : Ybaf.prog.underlying t = some (.array n 5)) (xs : Array Value) (w : World) (h : ∀ i, i < n → ∃ a, xs[i]? = some (.int .u8 a)) : (Op.equalIn D t (.agg xs) (.agg xs)).run Ybaf.prog w = .ok true w := by
  subst hD
  obtain ⟨i0, hi, _⟩ := info_parts Ybaf.info5
  rw [run_equalIn_array w (d + 1) xs xs hu hi, cells5']
  exact items_refl d xs w _ (fun i hi => h i (List.mem_range.1 hi))
theorem struct_eq (D d : Nat) (hD : D = d + 1) (xs ys : Array Value) (w : World) : (Op.equalIn D 28 (.agg xs) (.agg ys)).run Ybaf.prog w = (Op.eqFields d xs ys (Ybaf.prog.fieldsOf 28).toList).run Ybaf.prog w := by
  subst hD
  exact run_equalIn_struct w d 28 xs ys (by kernel_rfl) (by kernel_rfl)
theorem part_26 (xs : Array Value) (w : World) : (part 26 xs 1).run Ybaf.prog w = .ok (.agg (xs.extract 1 33)) w := by
  have hagg : (isAgg 26).run Ybaf.prog w = .ok true w := by
    unfold isAgg
    rw [Sem.run_bind, run_underlying Ybaf.underlying26 w]
    simp
  have hi : (Ybaf.prog.info? 26).map (·.size) = some 32 := by kernel_rfl
  cases hq : Ybaf.prog.info? 26 with
  | none => simp [hq] at hi
  | some i =>
    have hs : i.size = 32 := by simpa [hq] using hi
    unfold part
    rw [Sem.run_bind, hagg]
    simp [sizeOf, typeInfo, hq, hs]
theorem bnd_at (ts : Int) (f : Nat → Nat) (m j : Nat) (hj : j < 34) : (bnd ts f m)[j]? = some (if j = 0 then .int .u64 ts else if j = 33 then .int .i64 m else .int .u8 (if j - 1 < m then f (j - 1) else 0)) := by
  rw [Array.getElem?_eq_getElem (by rw [bnd_size]; exact hj)]; simp [bnd]
theorem fields28 : (Ybaf.prog.fieldsOf 28).toList.map (fun f => (f.name, f.type, f.offset)) = [("timestamp", 22, 0), ("key", 26, 1), ("prefix", 3, 33)] := by kernel_rfl
theorem fields_refl (D d : Nat) (hD : D = d + 2) (ts : Int) (f : Nat → Nat) (m : Nat) (w : World) : (Op.eqFields D (bnd ts f m) (bnd ts f m) (Ybaf.prog.fieldsOf 28).toList).run Ybaf.prog w = .ok true w := by
  have h0 : (part 22 (bnd ts f m) 0).run Ybaf.prog w = .ok (.int .u64 ts) w := part_int 22 .u64 Ybaf.underlying22 _ 0 _ w (by rw [bnd_at _ _ _ _ (by omega)]; rfl)
  have h3 : (part 3 (bnd ts f m) 33).run Ybaf.prog w = .ok (.int .i64 m) w := part_int 3 .i64 Ybaf.underlying3 _ 33 _ w (by rw [bnd_at _ _ _ _ (by omega)]; rfl)
  have h1 := part_26 (bnd ts f m) w
  have e1 := array_refl D d 32 hD 26 Ybaf.underlying26 ((bnd ts f m).extract 1 33) w (fun i hi => by
    refine ⟨if i < m then f i else 0, ?_⟩
    rw [Array.getElem?_extract, if_pos (by rw [bnd_size]; omega), bnd_at _ _ _ _ (by omega), if_neg (by omega), if_neg (by omega), Nat.add_sub_cancel_left])
  have q0 := equal_int D (d + 1) hD 22 .u64 .u64 Ybaf.underlying22 ts w
  have q3 := equal_int D (d + 1) hD 3 .i64 .i64 Ybaf.underlying3 m w
  obtain ⟨F, hF⟩ : ∃ F, F = (Ybaf.prog.fieldsOf 28).toList := ⟨_, rfl⟩
  have hm := fields28
  rw [← hF] at hm ⊢
  clear hF hD
  have hl : F.length = 3 := by have := congrArg List.length hm; simpa using this
  obtain ⟨a, b, c, rfl⟩ : ∃ a b c, F = [a, b, c] := by
    cases F with
    | nil => simp at hl
    | cons a F => cases F with
      | nil => simp at hl
      | cons b F => cases F with
        | nil => simp at hl
        | cons c F => cases F with
          | nil => exact ⟨a, b, c, rfl⟩
          | cons d F => simp at hl
  simp only [List.map_cons, List.map_nil, List.cons.injEq, Prod.mk.injEq, and_true] at hm
  obtain ⟨⟨a1, a2, a3⟩, ⟨b1, b2, b3⟩, ⟨c1, c2, c3⟩⟩ := hm
  simp [Op.eqFields, a1, a2, a3, b1, b2, b3, c1, c2, c3, Sem.run_bind, h0, h1, h3, e1, q0, q3]
theorem neq28 (ts : Int) (f : Nat → Nat) (m : Nat) (w : World) : (binOp .neq 28 (.agg (bnd ts f m)) (.agg (bnd ts f m))).run Ybaf.prog w = .ok (.bool false) w := by
  rw [run_neq_struct, struct_eq 10000 9999 (by decide), fields_refl 9999 9997 (by decide)]
  simp
theorem eql30 (xs : Array Value) (w : World) (h : ∀ i, i < 16 → ∃ a, xs[i]? = some (.int .u8 a)) : (binOp .eql 30 (.agg xs) (.agg xs)).run Ybaf.prog w = .ok (.bool true) w := by
  rw [run_eql_struct, array_refl 10000 9998 16 (by decide) 30 Ybaf.underlying30 xs w h]
  simp
end Go.Proofs.YbulkcgfiFmt
