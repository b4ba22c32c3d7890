import Derived.Test.YbulkcgfiFmtG6
namespace Go.Proofs.YbulkcgfiFmt
open Go.RowKit Go.Extern.Stop Go.Stop Go.Extern
set_option linter.unusedVariables false
set_option linter.unusedSimpArgs false
def bnd (ts : Int) (f : Nat → Nat) (m : Nat) : Array Value := Array.ofFn (n := 34) fun i => if i.val = 0 then .int .u64 ts else if i.val = 33 then .int .i64 m else .int .u8 (if i.val - 1 < m then f (i.val - 1) else 0)
theorem bnd_size (ts : Int) (f : Nat → Nat) (m : Nat) : (bnd ts f m).size = 34 := by simp [bnd]
theorem bnd_get {ts : Int} {f : Nat → Nat} {m j : Nat} {v : Value} (h : (bnd ts f m)[j]? = some v) : j < 34 ∧ v = if j = 0 then .int .u64 ts else if j = 33 then .int .i64 m else .int .u8 (if j - 1 < m then f (j - 1) else 0) := by
  have hj : j < 34 := by have := (Array.getElem?_eq_some_iff.1 h).1; rwa [bnd_size] at this
  refine ⟨hj, ?_⟩
  rw [Array.getElem?_eq_getElem (by rw [bnd_size]; exact hj)] at h
  simp [bnd] at h
  exact h.symm
theorem bnd_one (ts : Int) (f : Nat → Nat) (m : Nat) : ∀ v ∈ (bnd ts f m).toList, v.oneCell' = true := by
  intro v hv
  obtain ⟨j, hj⟩ := List.mem_iff_getElem?.1 hv
  obtain ⟨_, rfl⟩ := bnd_get (j := j) (by simpa using hj)
  split
  · rfl
  · split <;> rfl
theorem Ybaf.size28 : (Ybaf.prog.info? 28).map (·.size) = some 34 := by kernel_rfl
/-- What the two new blocks hold ahead of the copy. -/
structure B2 (w W : World) (s p : Nat) (ts : Int) : Prop where
  p0 : W.cell? ⟨p, 0, none⟩ = some (.int .u64 ts)
  pk : ∀ i, i < 32 → W.cell? ⟨p, 1 + i, none⟩ = some (.int .u8 0)
  pn : W.cell? ⟨p, 33, none⟩ = some (.int .i64 0)
  pf : ∀ j, W.frozen? ⟨p, j, none⟩ = false
  sc : ∀ j, j < 34 → (W.cell? ⟨s, j, none⟩).isSome = true
  sf : ∀ j, W.frozen? ⟨s, j, none⟩ = false
  ne : s ≠ p
  ge : w.heap.size ≤ s ∧ w.heap.size ≤ p
  bel : Below w.heap.size w W
def z34 (ts : Int) : Array Value := #[Value.int IntKind.u64 ts, Value.int IntKind.u8 0, Value.int IntKind.u8 0, Value.int IntKind.u8 0, Value.int IntKind.u8 0, Value.int IntKind.u8 0, Value.int IntKind.u8 0, Value.int IntKind.u8 0, Value.int IntKind.u8 0, Value.int IntKind.u8 0, Value.int IntKind.u8 0, Value.int IntKind.u8 0, Value.int IntKind.u8 0, Value.int IntKind.u8 0, Value.int IntKind.u8 0, Value.int IntKind.u8 0, Value.int IntKind.u8 0, Value.int IntKind.u8 0, Value.int IntKind.u8 0, Value.int IntKind.u8 0, Value.int IntKind.u8 0, Value.int IntKind.u8 0, Value.int IntKind.u8 0, Value.int IntKind.u8 0, Value.int IntKind.u8 0, Value.int IntKind.u8 0, Value.int IntKind.u8 0, Value.int IntKind.u8 0, Value.int IntKind.u8 0, Value.int IntKind.u8 0, Value.int IntKind.u8 0, Value.int IntKind.u8 0, Value.int IntKind.u8 0, Value.int IntKind.i64 0]
theorem z34_eq (ts : Int) : z34 ts = bnd ts (fun _ => 0) 0 := Array.ext' (by simp [bnd, z34])
theorem B2.start (w : World) (ts : Int) : B2 w ((w.alloc (.cells (z34 0) 28)).alloc (.cells (z34 ts) 28)) w.heap.size (w.heap.size + 1) ts := by
  have e1 : ∀ j, ((w.alloc (.cells (z34 0) 28)).alloc (.cells (z34 ts) 28)).cell? ⟨w.heap.size + 1, j, none⟩ = (z34 ts)[j]? := fun j => World.cell?_alloc_at _ _ _ _ (by simp)
  have e2 : ∀ j, ((w.alloc (.cells (z34 0) 28)).alloc (.cells (z34 ts) 28)).cell? ⟨w.heap.size, j, none⟩ = (z34 0)[j]? := fun j => by rw [World.cell?_alloc_past _ _ _ (by simp)]; exact World.cell?_alloc_at _ _ _ _ rfl
  have g : ∀ j, j < 34 → (bnd ts (fun _ => 0) 0)[j]? = some (if j = 0 then .int .u64 ts else if j = 33 then .int .i64 0 else .int .u8 0) := fun j hj => by
    rw [Array.getElem?_eq_getElem (by rw [bnd_size]; exact hj)]; simp [bnd]
  refine ⟨?_, fun i hi => ?_, ?_, fun j => by simp, fun j hj => ?_, fun j => ?_, by omega, by omega, ((Below.refl _ _).alloc (Nat.le_refl _) _).alloc (by simp) _⟩
  · rw [e1, z34_eq, g 0 (by omega)]; rfl
  · rw [e1, z34_eq, g (1 + i) (by omega), if_neg (by omega), if_neg (by omega)]
  · rw [e1, z34_eq, g 33 (by omega)]; rfl
  · rw [e2, z34_eq, Array.getElem?_eq_getElem (by rw [bnd_size]; exact hj)]; rfl
  · rw [World.frozen?_alloc_past _ _ _ (by simp)]; exact World.frozen?_alloc_at _ _ _ _ rfl
end Go.Proofs.YbulkcgfiFmt
