import Derived.Test.YbulkcgegF1
namespace Go.Proofs.Ybulkcgeg
open Go.RowKit Go.Maps Go.WideMaps
set_option linter.unusedVariables false
set_option linter.unusedSimpArgs false
/-- All that queue.dropBefore wants, at a world wr (c.w is not looked at but for what lay there at the start). -/
structure PreQ (c : Cx) (wr : World) (xb : Int) (D : DataW Unit) : Prop where
  heap : HeapAt wr c.T c.K c.nc c.f
  c0 : wr.cell? ⟨c.b, 0, none⟩ = some (.slice (some ⟨c.T, 0, none⟩) c.nc c.nc)
  c1 : wr.cell? ⟨c.b, 1, none⟩ = some (.int .i64 c.n)
  c2 : wr.cell? ⟨c.b, 2, none⟩ = some (.map (some c.m))
  c3 : wr.cell? ⟨c.b, 3, none⟩ = some (.int .i64 (tsum c.cost c.n))
  c5 : wr.cell? ⟨c.b, 5, none⟩ = some (.int .i64 0)
  c11 : wr.cell? ⟨c.b, 11, none⟩ = some (.map none)
  c16 : wr.cell? ⟨c.b, 16, none⟩ = some (.int .i64 xb)
  fz : ∀ j, wr.frozen? ⟨c.b, j, none⟩ = false
  own : OwnsIds wr c.m c.N D
  has : ∀ i, i < c.n → Maps.has D (idLit (idOf i)) = true
  size : Maps.size D = c.n
  bel : Below c.w.heap.size c.w wr
theorem PreQ.below {c : Cx} {wr w2 : World} {xb : Int} {D : DataW Unit} (h : PreQ c wr xb D) (hb : Below wr.heap.size wr w2) : PreQ c w2 xb D := by
  have hl := World.block_lt_of_cell? _ _ h.c0
  exact ⟨h.heap.below hb, cell_later hb h.c0, cell_later hb h.c1, cell_later hb h.c2, cell_later hb h.c3, cell_later hb h.c5, cell_later hb h.c11, cell_later hb h.c16, fun j => by rw [hb.frozen (by exact hl)]; exact h.fz j, ownsIds_below h.own hb, h.has, h.size, h.bel.trans (hb.mono h.bel.size)⟩
/-- The start of the drop. -/
theorem PreQ.start {c : Cx} {wr : World} {xb : Int} {D : DataW Unit} (h : PreQ c wr xb D) (ho : c.o = 0) (hc : ({ c with w := wr.alloc Wt.zero.obj } : Cx).ok) :
    DS { c with w := wr.alloc Wt.zero.obj } ((wr.alloc Wt.zero.obj).alloc Wt.zero.obj) 0 c.f D Wt.zero := by
  have hb1 : Below wr.heap.size wr (wr.alloc Wt.zero.obj) := (Below.refl _ _).alloc (Nat.le_refl _) _
  have hb2 : Below (wr.alloc Wt.zero.obj).heap.size (wr.alloc Wt.zero.obj) ((wr.alloc Wt.zero.obj).alloc Wt.zero.obj) := (Below.refl _ _).alloc (Nat.le_refl _) _
  have h2 := (h.below hb1).below hb2
  have hbs : c.b < (wr.alloc Wt.zero.obj).heap.size := World.block_lt_of_cell? _ _ (h.below hb1).c0
  refine ⟨h2.heap, fun _ _ => rfl, ⟨id, fun j hj => absurd hj (by simp [kcnt]), fun j j' _ hj => absurd hj (by simp [kcnt])⟩, zero_new _, fun j => by simp, by rw [show (({ c with w := wr.alloc Wt.zero.obj } : Cx).o) = 0 from ho]; exact h2.c0, by rw [show (({ c with w := wr.alloc Wt.zero.obj } : Cx).o) = 0 from ho]; exact h2.c1, by rw [show (({ c with w := wr.alloc Wt.zero.obj } : Cx).o) = 0 from ho]; exact h2.c2, ?_, fun j hj => ?_, h2.fz, h2.own, fun i hi => ?_, ?_, Fr.of_below hb2, by simp⟩
  · rw [show (({ c with w := wr.alloc Wt.zero.obj } : Cx).o) = 0 from ho]
    simp only [dsum, Int.sub_zero]
    exact h2.c3
  · exact hb2.cell (by exact hbs)
  · rw [h.has i hi]; simp
  · rw [h.size]; simp [kcnt]
theorem QF.below {c : Cx} {w0 wr w2 : World} {f' : Nat → Wt} {D : DataW Unit} {xb : Int} (h : QF c w0 wr f' D xb) (hb : Below wr.heap.size wr w2) : QF c w0 w2 f' D xb := by
  have hl := World.block_lt_of_cell? _ _ h.c0
  exact ⟨h.heap.below hb, h.kp, h.zero, h.hp, cell_later hb h.c0, cell_later hb h.c1, cell_later hb h.c2, cell_later hb h.c3, cell_later hb h.c5, cell_later hb h.c11, cell_later hb h.c16, by rw [hb.frozen (by exact hl)]; exact h.f16, ownsIds_below h.own hb, h.has, h.size, h.fr.trans (Fr.of_below hb)⟩
def bstI : Option Nat → Int
  | none => -1
  | some j => j
end Go.Proofs.Ybulkcgeg
