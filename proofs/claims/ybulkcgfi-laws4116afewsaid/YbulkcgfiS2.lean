import Derived.Test.YbulkcgfiS1
namespace Go.Proofs.Ybulkcgfi
open Go.RowKit
set_option linter.unusedVariables false
set_option linter.unusedSimpArgs false
set_option maxRecDepth 100000
abbrev ID := List UInt8
/-- Nothing but the blocks of S, and new ones, has changed. -/
structure Fw (S : Nat → Prop) (w w' : World) : Prop where
  os : w'.os = w.os
  tape : w'.tape = w.tape
  output : w'.output = w.output
  size : w.heap.size ≤ w'.heap.size
  block : ∀ g, g < w.heap.size → ¬ S g → w'.heap[g]? = w.heap[g]?
theorem Fw.refl (S : Nat → Prop) (w : World) : Fw S w w := ⟨rfl, rfl, rfl, Nat.le_refl _, fun _ _ _ => rfl⟩
theorem Fw.trans {S : Nat → Prop} {u v w : World} (h : Fw S u v) (k : Fw S v w) : Fw S u w :=
  ⟨k.os.trans h.os, k.tape.trans h.tape, k.output.trans h.output, Nat.le_trans h.size k.size, fun g h1 h2 => (k.block g (Nat.lt_of_lt_of_le h1 h.size) h2).trans (h.block g h1 h2)⟩
theorem Fw.of_below {S : Nat → Prop} {w w' : World} (h : Below w.heap.size w w') : Fw S w w' := ⟨h.os, h.tape, h.output, h.size, fun g h1 _ => h.block g h1⟩
theorem sc_other (b : Nat) : ∀ (vs : List Value) (o : Nat) (w : World) (g : Nat), g ≠ b → (w.setCells b o vs).heap[g]? = w.heap[g]?
  | [], _, _, _, _ => rfl
  | v :: r, o, w, g, h => by rw [World.setCells, sc_other b r _ _ g h, Below.heap_setCell _ _ _ _ h]
theorem sc_size (b : Nat) : ∀ (vs : List Value) (o : Nat) (w : World), (w.setCells b o vs).heap.size = w.heap.size
  | [], _, _ => rfl
  | v :: r, o, w => by rw [World.setCells, sc_size b r]; simp
theorem sc_os (b : Nat) : ∀ (vs : List Value) (o : Nat) (w : World), (w.setCells b o vs).os = w.os ∧ (w.setCells b o vs).tape = w.tape ∧ (w.setCells b o vs).output = w.output
  | [], _, _ => ⟨rfl, rfl, rfl⟩
  | v :: r, o, w => by rw [World.setCells]; exact sc_os b r _ _
/-- Block g holds the IDs of d, one behind the other. -/
structure SR (w : World) (g : Nat) (d : Array ID) (wr : World) : Prop where
  fw : Fw (fun t => t = g) w wr
  row : ∀ x, x < d.size → wr.rangeAt g (x * 32) (idc d[x]!)
  ok : ∀ x, x < d.size → (d[x]!).length = 32
  fz : ∀ j, wr.frozen? ⟨g, j, none⟩ = false
theorem SR.below {w : World} {g : Nat} {d : Array ID} {wr w' : World} (h : SR w g d wr) (hg : g < wr.heap.size) (hb : Below wr.heap.size wr w') : SR w g d w' :=
  ⟨h.fw.trans (Fw.of_below hb), fun x hx j v hv => by rw [hb.cell (by exact hg)]; exact h.row x hx j v hv, h.ok, fun j => by rw [hb.frozen (by exact hg)]; exact h.fz j⟩
theorem SR.there {w : World} {g : Nat} {d : Array ID} {wr : World} (h : SR w g d wr) {x : Nat} (hx : x < d.size) : wr.there g (x * 32) 32 := fun j hj => by
  have hl : j < (idc d[x]!).length := by rw [idc_len, h.ok x hx]; exact hj
  refine ⟨?_, h.fz _⟩
  rw [h.row x hx j _ (List.getElem?_eq_getElem hl)]
  rfl
theorem get!_set {d : Array ID} {i x : Nat} {v : ID} (hi : i < d.size) : (d.setIfInBounds i v)[x]! = if x = i then v else d[x]! := by
  by_cases h : x = i
  · subst h; simp [hi]
  · rw [if_neg h]
    simp [Array.getElem!_eq_getD, Array.getD_eq_getD_getElem?, Array.getElem?_setIfInBounds, Ne.symm h]
/-- One ID stored. -/
theorem SR.store {w : World} {g : Nat} {d : Array ID} {wr : World} (h : SR w g d wr) {i : Nat} (hi : i < d.size) (v : ID) (hv : v.length = 32) : SR w g (d.setIfInBounds i v) (wr.setCells g (i * 32) (idc v)) := by
  have ho := sc_os g (idc v) (i * 32) wr
  have hlen : (idc v).length = 32 := by rw [idc_len, hv]
  refine ⟨h.fw.trans ⟨ho.1, ho.2.1, ho.2.2, by rw [sc_size]; exact Nat.le_refl _, fun t _ ht => sc_other g _ _ _ t ht⟩, fun x hx j u hu => ?_, fun x hx => ?_, fun j => by rw [World.frozen?_setCells]; exact h.fz j⟩
  · simp only [Array.size_setIfInBounds] at hx
    rw [get!_set hi] at hu
    by_cases hxi : x = i
    · subst hxi
      rw [if_pos rfl] at hu
      obtain ⟨hj, hu'⟩ := List.getElem?_eq_some_iff.1 hu
      rw [World.cell?_setCells_in g (idc v) (x * 32) wr (fun j hj => ((h.there hx) j (by omega)).1) j hj, hu']
    · rw [if_neg hxi] at hu
      have hj : j < 32 := by have := (List.getElem?_eq_some_iff.1 hu).1; rwa [idc_len, h.ok x hx] at this
      rw [World.cell?_setCells_out g _ _ _ _ (fun _ _ => by show x * 32 + j < i * 32 ∨ i * 32 + (idc v).length ≤ x * 32 + j; omega)]
      exact h.row x hx j u hu
  · simp only [Array.size_setIfInBounds] at hx
    rw [get!_set hi]
    split
    · exact hv
    · exact h.ok x hx
/-- Two IDs swapped. -/
theorem SR.swap {w : World} {g : Nat} {d : Array ID} {wr : World} (h : SR w g d wr) {i j : Nat} (hi : i < d.size) (hj : j < d.size) : SR w g (Sort.swp d i j) ((wr.setCells g (i * 32) (idc d[j]!)).setCells g (j * 32) (idc d[i]!)) := by
  unfold Sort.swp
  exact (h.store hi d[j]! (h.ok j hj)).store (by simpa using hj) d[i]! (h.ok i hi)
end Go.Proofs.Ybulkcgfi
