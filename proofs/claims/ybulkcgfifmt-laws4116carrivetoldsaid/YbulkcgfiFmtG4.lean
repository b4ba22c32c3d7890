import Derived.Test.YbulkcgfiFmtG3
import Derived.Laws.IdiomCopy
import Derived.BigRegion
import Derived.Deep.RegionWith
import Derived.Deep.DeepCutAuto
namespace Go.Proofs.YbulkcgfiFmt
open Go.RowKit Go.Extern.Stop Go.Stop Go.Extern
set_option linter.unusedVariables false
set_option linter.unusedSimpArgs false
/-- n bytes of E from o on, as values. -/
def eB (E : Nat → Nat) (o n : Nat) : List Value := (List.range n).map fun i => .int .u8 (E (o + i))
theorem eB_get {E : Nat → Nat} {o n j : Nat} {v : Value} (h : (eB E o n)[j]? = some v) : j < n ∧ v = .int .u8 (E (o + j)) := by
  unfold eB at h
  rw [List.getElem?_map] at h
  by_cases hj : j < n
  · rw [List.getElem?_range hj] at h
    simp at h
    exact ⟨hj, h.symm⟩
  · rw [List.getElem?_eq_none (by simpa using hj)] at h
    simp at h
theorem neqnil (w : World) (a : Addr) (n c : Nat) : (binOp .neq 23 (.slice (some a) n c) (.slice none 0 0)).run Ybaf.prog w = .ok (.bool true) w := by
  simp [go_sem, Ybaf.underlying23]
/-- Block g: r of n bytes from go on are read. -/
structure GB (w wr : World) (g go n r : Nat) (E : Nat → Nat) (o : Nat) : Prop where
  lt : g < wr.heap.size
  done : ∀ j, j < r → wr.cell? ⟨g, go + j, none⟩ = some (.int .u8 (E (o + j)))
  rest : ∀ j, j < n → (wr.cell? ⟨g, go + j, none⟩).isSome = true
  out : ∀ j, (j < go ∨ go + n ≤ j) → wr.cell? ⟨g, j, none⟩ = w.cell? ⟨g, j, none⟩
  frz : ∀ j, wr.frozen? ⟨g, j, none⟩ = w.frozen? ⟨g, j, none⟩
theorem GB.eq {w wr w1 : World} {g go n r : Nat} {E : Nat → Nat} {o : Nat} (h : GB w wr g go n r E o) (hs : wr.heap.size ≤ w1.heap.size) (hb : w1.heap[g]? = wr.heap[g]?) : GB w w1 g go n r E o :=
  ⟨Nat.lt_of_lt_of_le h.lt hs, fun j hj => by rw [World.cell?_of_block (w := wr) (by exact hb)]; exact h.done j hj, fun j hj => by rw [World.cell?_of_block (w := wr) (by exact hb)]; exact h.rest j hj, fun j hj => by rw [World.cell?_of_block (w := wr) (by exact hb)]; exact h.out j hj, fun j => by rw [World.frozen?_of_block (w := wr) (by exact hb)]; exact h.frz j⟩
theorem GB.fk {T : Nat → Prop} {b : Nat} {w wr w1 : World} {g go n r : Nat} {E : Nat → Nat} {o : Nat} (h : GB w wr g go n r E o) (hf : Fk T b wr w1) (hT : ¬ T g) (hb : g ≠ b) : GB w w1 g go n r E o :=
  h.eq hf.size (hf.block g h.lt hT hb)
theorem GB.setB {b i : Nat} {w wr : World} {g go n r : Nat} {E : Nat → Nat} {o : Nat} (h : GB w wr g go n r E o) (hb : g ≠ b) (v : Value) : GB w (wr.setCell ⟨b, i, none⟩ v) g go n r E o :=
  h.eq (by simp) (Below.heap_setCell _ _ _ _ (by exact hb))
theorem size_setCells (b : Nat) : ∀ (vs : List Value) (o : Nat) (w : World), (w.setCells b o vs).heap.size = w.heap.size
  | [], _, _ => rfl
  | v :: r, o, w => by rw [World.setCells, size_setCells b r]; simp
theorem heap_setCells (b g : Nat) (hg : g ≠ b) : ∀ (vs : List Value) (o : Nat) (w : World), (w.setCells b o vs).heap[g]? = w.heap[g]?
  | [], _, _ => rfl
  | v :: r, o, w => by rw [World.setCells, heap_setCells b g hg r]; exact Below.heap_setCell _ _ _ _ (by exact hg)
theorem misc_setCells (b : Nat) : ∀ (vs : List Value) (o : Nat) (w : World), (w.setCells b o vs).os = w.os ∧ (w.setCells b o vs).tape = w.tape ∧ (w.setCells b o vs).output = w.output
  | [], _, _ => ⟨rfl, rfl, rfl⟩
  | v :: r, o, w => by rw [World.setCells]; exact misc_setCells b r (o + 1) (w.setCell ⟨b, o, none⟩ v)
theorem eB_len (E : Nat → Nat) (o n : Nat) : (eB E o n).length = n := by simp [eB]
theorem GB.copy {w wr : World} {g go n r rd : Nat} {E : Nat → Nat} {o : Nat} (h : GB w wr g go n r E o) (hr : r + rd ≤ n) : GB w (wr.setCells g (go + r) (eB E (o + r) rd)) g go n (r + rd) E o := by
  have inn : ∀ j, j < rd → (wr.setCells g (go + r) (eB E (o + r) rd)).cell? ⟨g, go + r + j, none⟩ = some (.int .u8 (E (o + r + j))) := fun j hj => by
    rw [World.cell?_setCells_in g _ _ _ (fun i hi => by rw [eB_len] at hi; have := h.rest (r + i) (by omega); rwa [show go + (r + i) = go + r + i by omega] at this) j (by rw [eB_len]; exact hj)]
    simp [eB]
  refine ⟨by rw [size_setCells]; exact h.lt, fun j hj => ?_, fun j hj => ?_, fun j hj => ?_, fun j => by rw [World.frozen?_setCells]; exact h.frz j⟩
  · by_cases hjr : j < r
    · rw [World.cell?_setCells_out g _ _ _ _ (fun _ _ => Or.inl (by simp only; omega))]; exact h.done j hjr
    · have := inn (j - r) (by omega)
      rwa [show go + r + (j - r) = go + j by omega, show o + r + (j - r) = o + j by omega] at this
  · by_cases hjr : r ≤ j ∧ j < r + rd
    · have := inn (j - r) (by omega)
      rw [show go + r + (j - r) = go + j by omega] at this
      rw [this]; rfl
    · rw [World.cell?_setCells_out g _ _ _ _ (fun _ _ => by rw [eB_len]; simp only; omega)]; exact h.rest j hj
  · rw [World.cell?_setCells_out g _ _ _ _ (fun _ _ => by rw [eB_len]; simp only; omega)]; exact h.out j hj
theorem Fk.setCells {T : Nat → Prop} {b g : Nat} {w : World} (hg : T g) (hb : g ≠ b) (o : Nat) (vs : List Value) : Fk T b w (w.setCells g o vs) :=
  ⟨(misc_setCells g vs o w).1, (misc_setCells g vs o w).2.1, (misc_setCells g vs o w).2.2, by rw [size_setCells]; exact Nat.le_refl _, fun x h1 h2 h3 => heap_setCells g x (fun e => h2 (e ▸ hg)) vs o w, fun j _ => World.cell?_setCells_out g vs o w _ (fun e => absurd e.symm (by exact hb)), fun j => World.frozen?_setCells g vs o w _⟩
theorem Fk.wide {T : Nat → Prop} {b g : Nat} {w w' : World} (h : Fk T b w w') : Fk (fun x => T x ∨ x = g) b w w' :=
  ⟨h.os, h.tape, h.output, h.size, fun x h1 h2 h3 => h.block x h1 (fun t => h2 (Or.inl t)) h3, h.cell, h.frz⟩
theorem Rdr.others {en : Prop} {T : Nat → Prop} {b k : Nat} {E : Nat → Nat} {St Sw : World → Nat → Prop} (R : Rdr en T b k E St Sw) {g : Nat} (hT : ¬ T g) (hb : g ≠ b) (p : Nat) : ∀ (vs : List Value) (o : Nat) (w : World), Sw w p → Sw (w.setCells g o vs) p
  | [], _, _, h => h
  | v :: r, o, w, h => by rw [World.setCells]; exact Rdr.others R hT hb p r (o + 1) _ (R.otherw _ _ _ _ _ h hT (Or.inl hb))
end Go.Proofs.YbulkcgfiFmt
