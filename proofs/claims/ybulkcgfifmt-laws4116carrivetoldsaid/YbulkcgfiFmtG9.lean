import Derived.Test.YbulkcgfiFmtG8
namespace Go.Proofs.YbulkcgfiFmt
open Go.RowKit Go.Extern.Stop Go.Stop Go.Extern
set_option linter.unusedVariables false
set_option linter.unusedSimpArgs false
/-- What readBound and readRange may change: the reader's cells 0 .. 2 and 4 .. j0, block g, and the blocks of T. -/
structure Fq (T : Nat → Prop) (b g j0 : Nat) (w w' : World) : Prop where
  os : w'.os = w.os
  tape : w'.tape = w.tape
  output : w'.output = w.output
  size : w.heap.size ≤ w'.heap.size
  block : ∀ x, x < w.heap.size → ¬ T x → x ≠ b → x ≠ g → w'.heap[x]? = w.heap[x]?
  cell : ∀ j, (j = 3 ∨ j0 ≤ j) → w'.cell? ⟨b, j, none⟩ = w.cell? ⟨b, j, none⟩
  frz : ∀ j, w'.frozen? ⟨b, j, none⟩ = w.frozen? ⟨b, j, none⟩
  gfz : ∀ j, w'.frozen? ⟨g, j, none⟩ = w.frozen? ⟨g, j, none⟩
theorem Fq.refl (T : Nat → Prop) (b g j0 : Nat) (w : World) : Fq T b g j0 w w := ⟨rfl, rfl, rfl, Nat.le_refl _, fun _ _ _ _ _ => rfl, fun _ _ => rfl, fun _ => rfl, fun _ => rfl⟩
theorem Fq.trans {T : Nat → Prop} {b g j0 : Nat} {u v w : World} (h : Fq T b g j0 u v) (k : Fq T b g j0 v w) : Fq T b g j0 u w :=
  ⟨k.os.trans h.os, k.tape.trans h.tape, k.output.trans h.output, Nat.le_trans h.size k.size, fun g h1 h2 h3 h4 => (k.block g (Nat.lt_of_lt_of_le h1 h.size) h2 h3 h4).trans (h.block g h1 h2 h3 h4), fun j hj => (k.cell j hj).trans (h.cell j hj), fun j => (k.frz j).trans (h.frz j), fun j => (k.gfz j).trans (h.gfz j)⟩
theorem Fk.q {T : Nat → Prop} {b g j0 : Nat} {w w' : World} (h : Fk T b w w') (h3 : 3 ≤ j0) (hT : ¬ T g) (hgb : g ≠ b) (hg : g < w.heap.size) : Fq T b g j0 w w' :=
  ⟨h.os, h.tape, h.output, h.size, fun x h1 h2 h3 _ => h.block x h1 h2 h3, fun j hj => h.cell j (by omega), h.frz, fun j => World.frozen?_of_block (w := w) (by exact h.block g hg hT hgb)⟩
theorem Fk.qg {T : Nat → Prop} {b g j0 : Nat} {w w' : World} (h : Fk (fun x => T x ∨ x = g) b w w') (h3 : 3 ≤ j0) (hz : ∀ j, w'.frozen? ⟨g, j, none⟩ = w.frozen? ⟨g, j, none⟩) : Fq T b g j0 w w' :=
  ⟨h.os, h.tape, h.output, h.size, fun x h1 h2 h3 h4 => h.block x h1 (fun hh => hh.elim h2 h4) h3, fun j hj => h.cell j (by omega), h.frz, hz⟩
theorem Fq.setG {T : Nat → Prop} {b g j0 : Nat} {w : World} (hgb : g ≠ b) (j : Nat) (v : Value) : Fq T b g j0 w (w.setCell ⟨g, j, none⟩ v) :=
  ⟨rfl, rfl, rfl, by simp, fun x h1 h2 h3 h4 => Below.heap_setCell _ _ _ _ (by exact fun e => h4 e), fun i hi => World.cell?_setCell_other _ _ _ _ (by intro e; injection e with e1 _ _; exact hgb e1), fun i => World.frozen?_setCell _ _ _ _, fun i => World.frozen?_setCell _ _ _ _⟩
theorem Fq.setB {T : Nat → Prop} {b g j0 : Nat} {w : World} (hgb : g ≠ b) (j : Nat) (hj : j ≠ 3 ∧ j < j0) (v : Value) : Fq T b g j0 w (w.setCell ⟨b, j, none⟩ v) :=
  ⟨rfl, rfl, rfl, by simp, fun x h1 h2 h3 h4 => Below.heap_setCell _ _ _ _ (by exact fun e => h3 e), fun i hi => World.cell?_setCell_other _ _ _ _ (by intro e; injection e with _ e2 _; omega), fun i => World.frozen?_setCell _ _ _ _, fun i => World.frozen?_setCell _ _ _ _⟩
theorem Fq.of_below {T : Nat → Prop} {b g j0 : Nat} {w w' : World} (h : Below w.heap.size w w') (hb : b < w.heap.size) (hg : g < w.heap.size) : Fq T b g j0 w w' :=
  ⟨h.os, h.tape, h.output, h.size, fun x h1 _ _ _ => h.block x h1, fun j _ => h.cell (by exact hb), fun j => h.frozen (by exact hb), fun j => h.frozen (by exact hg)⟩
theorem Fq.wide {T : Nat → Prop} {b g j0 j1 : Nat} {w w' : World} (h : Fq T b g j0 w w') (hj : j0 ≤ j1) : Fq T b g j1 w w' :=
  ⟨h.os, h.tape, h.output, h.size, h.block, fun j hj' => h.cell j (by omega), h.frz, h.gfz⟩
def tsv (t last : Nat) : Nat := if t = 0 then 18446744073709551615 else last + t - 1
def tsOk (t last : Nat) : Prop := t = 0 ∨ t - 1 < 18446744073709551615 - last
/-- The bytes of E from o on are those of l, as far as there are k. -/
def At (E : Nat → Nat) (k o n : Nat) (l : Nat → Nat) : Prop := ∀ i, i < n → o + i < k → E (o + i) = l i
theorem wrapU (x : Int) (h0 : 0 ≤ x) (h1 : x < 18446744073709551616) : IntKind.u64.wrap x = x := by
  simp [IntKind.wrap, IntKind.signed, IntKind.bits]; omega
/-- Block g holds a bound in the making: timestamp set or not, key empty. -/
structure G0 (w : World) (g : Nat) : Prop where
  lt : g < w.heap.size
  ts : (w.cell? ⟨g, 0, none⟩).isSome = true
  key : ∀ i, i < 32 → w.cell? ⟨g, 1 + i, none⟩ = some (.int .u8 0)
  pre : (w.cell? ⟨g, 33, none⟩).isSome = true
  fz : ∀ j, w.frozen? ⟨g, j, none⟩ = false
def BndAt (w : World) (g : Nat) (ts : Int) (f : Nat → Nat) (m : Nat) : Prop := ∀ j v, (bnd ts f m)[j]? = some v → w.cell? ⟨g, j, none⟩ = some v
end Go.Proofs.YbulkcgfiFmt
