import Derived.Test.YbulkcgfiFmtG5
namespace Go.Proofs.YbulkcgfiFmt
open Go.RowKit Go.Extern.Stop Go.Stop Go.Extern
set_option linter.unusedVariables false
set_option linter.unusedSimpArgs false
theorem add_plain (b o j : Nat) : (⟨b, o, none⟩ : Addr).add j = ⟨b, o + j, none⟩ := by unfold Addr.add; split <;> simp_all
/-- A struct or an array is loaded cell by cell. -/
theorem load_agg (w : World) (ty : TypeId) (b o : Nat) (cs : Array Value) (d : TypeDesc) (hu : Ybaf.prog.underlying ty = some d) (hd : (match d with | .struct _ | .array _ _ => true | _ => false) = true) (hi : (Ybaf.prog.info? ty).map (·.size) = some cs.size)
    (hc : ∀ j v, cs[j]? = some v → w.cell? ⟨b, o + j, none⟩ = some v) : (loadVar ty ⟨b, o, none⟩).run Ybaf.prog w = .ok (.agg cs) w := by
  have hl : (loadCells ⟨b, o, none⟩ cs.toList.length).run Ybaf.prog w = .ok cs.toList.toArray w :=
    run_loadCells_list (P := Ybaf.prog) w ⟨b, o, none⟩ cs.toList (fun j v hv => by rw [add_plain]; exact hc j v (by simpa using hv))
  cases hq : Ybaf.prog.info? ty with
  | none => simp [hq] at hi
  | some i =>
    have hs : i.size = cs.size := by simpa [hq] using hi
    have hagg : (isAgg ty).run Ybaf.prog w = .ok true w := by
      unfold isAgg
      rw [Sem.run_bind, run_underlying hu w]
      cases d <;> simp_all
    simp only [Array.length_toList, Array.toArray_toList] at hl
    simp [loadVar, Sem.run_bind, hagg, sizeOf, typeInfo, hq, hs, hl]
theorem store_agg (w : World) (ty : TypeId) (b o : Nat) (cs : Array Value) (hi : (Ybaf.prog.info? ty).map (·.size) = some cs.size) (hc : ∀ j, j < cs.size → (w.cell? ⟨b, o + j, none⟩).isSome = true) (hf : ∀ j, j < cs.size → w.frozen? ⟨b, o + j, none⟩ = false) (h1 : ∀ v ∈ cs.toList, v.oneCell' = true) :
    (storeVar ty ⟨b, o, none⟩ (.agg cs)).run Ybaf.prog w = .ok () (w.setCells b o cs.toList) := by
  have hst := run_storeCells_cells (P := Ybaf.prog) b o cs.toList 0 w (by simpa using hc) (by simpa using hf) h1
  cases hq : Ybaf.prog.info? ty with
  | none => simp [hq] at hi
  | some i =>
    have hs : i.size = cs.size := by simpa [hq] using hi
    simp [storeVar, Sem.run_bind, sizeOf, typeInfo, hq, hs, Value.cells]
    simpa using hst
end Go.Proofs.YbulkcgfiFmt
