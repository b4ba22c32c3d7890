import Derived.Test.YbulkcgegE4
namespace Go.Proofs.Ybulkcgeg
open Go.RowKit Go.Maps Go.WideMaps
set_option linter.unusedVariables false
set_option linter.unusedSimpArgs false
/-- The state of the first loop: the ids gathered, the cost summed. -/
structure L1 (c : Cx) (hB : Nat) (wr : World) (k : Nat) (D : DataW Unit) : Prop where
  heap : HeapAt wr c.T c.K c.nc c.f
  h0 : wr.cell? ⟨hB, 0, none⟩ = some (.slice (some ⟨c.T, 0, none⟩) c.nc c.nc)
  h1 : wr.cell? ⟨hB, 1, none⟩ = some (.int .i64 c.n)
  own : OwnsIds wr c.m k D
  has : ∀ i, i < c.n → Maps.has D (idLit (idOf i)) = decide (i < k)
  size : Maps.size D = k
  bel : Below c.w.heap.size c.w wr
theorem grown_below {w w' : World} {m B : Nat} (h : w.grownBy w' (some m)) (hB : B ≤ m) (hB2 : B ≤ w.heap.size) : Below B w w' :=
  (Below.refl B w).grown h hB2 (fun k hk => by cases hk; exact hB)
theorem L1.step {c : Cx} {hB : Nat} {wr w1 w2 : World} {k : Nat} {D : DataW Unit} (h : L1 c hB wr k D) (hn : c.n ≤ 4096) (hk : k < c.n) (hTK : c.T < c.K) (hKm : c.K + c.nc ≤ c.m) (hhm : hB ≠ c.m) (hwm : c.w.heap.size ≤ c.m) (hlt : c.m < wr.heap.size) (hb : Below wr.heap.size wr w1) (hg : w1.grownBy w2 (some c.m)) (ho : OwnsIds w2 c.m (k + 1) (D.put (idLit (idOf k)) (.agg []))) : L1 c hB w2 (k + 1) (D.put (idLit (idOf k)) (.agg [])) := by
  have hs := hb.size
  have hbs := h.bel.size
  have h1 := h.heap.below hb
  have cb : ∀ b j v, b ≠ c.m → w1.cell? ⟨b, j, none⟩ = some v → w2.cell? ⟨b, j, none⟩ = some v := fun b j v hne hv => by
    rw [World.cell?_of_block (w := w1) (hg.block b (World.block_lt_of_cell? _ _ hv) (by intro e; exact hne (by simpa using e)))]; exact hv
  have cw : ∀ b o t, b ≠ c.m → WtAt w1 b o t → WtAt w2 b o t := fun b o t h1 ht => ⟨cb _ _ _ h1 ht.c0, cb _ _ _ h1 ht.c1, cb _ _ _ h1 ht.c2, cb _ _ _ h1 ht.c3, cb _ _ _ h1 ht.c4⟩
  have htidy := h.own.tidy klaw
  have hmap := h.own.isMap
  refine ⟨⟨fun i hi => cb _ _ _ (by omega) (h1.tab i hi), fun i o hi => ?_, fun i hi => cw _ _ _ (by omega) (h1.at_ i hi)⟩, cb _ _ _ hhm (cell_later hb h.h0), cb _ _ _ hhm (cell_later hb h.h1), ho, fun i hi => ?_, ?_, h.bel.trans ((hb.mono hbs).trans (grown_below hg hwm (by omega)))⟩
  · have h0 := (h1.at_ (i * 1024) (by omega)).c0
    rw [show i * 1024 / 1024 = i by omega] at h0
    rw [World.frozen?_of_block (w := w1) (hg.block (c.K + i) (World.block_lt_of_cell? _ _ h0) (by intro e; simp at e; omega))]; exact h1.thaw i o hi
  · by_cases e : i = k
    · subst e; rw [has_put_same hmap (by exact trivial)]; simp
    · rw [has_put_other (idOf_ne (by omega) (by omega) e), h.has i hi]
      simp; omega
  · rw [size_put htidy, h.has k hk]
    simp [h.size]
end Go.Proofs.Ybulkcgeg
