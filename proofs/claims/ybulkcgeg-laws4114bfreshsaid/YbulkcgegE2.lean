import Derived.Test.YbulkcgegE1
namespace Go.Proofs.Ybulkcgeg
open Go.RowKit Go.Maps Go.WideMaps
set_option linter.unusedVariables false
set_option linter.unusedSimpArgs false
abbrev Wt.agg (t : Wt) : Value := .agg #[.string t.id, .int .i64 t.due, .int .u64 t.seq, .slice t.pa t.pn t.pn, .slice t.ma t.mn t.mn]
abbrev Wt.obj (t : Wt) : Obj := .cells #[.string t.id, .int .i64 t.due, .int .u64 t.seq, .slice t.pa t.pn t.pn, .slice t.ma t.mn t.mn] 55
def Cx.kc (c : Cx) : Nat := kcnt c.keep c.n
theorem Cx.kc_le (c : Cx) : c.kc ≤ c.n := kcnt_le _ _
structure ES (c : Cx) (wr : World) (i nv : Nat) (f' : Nat → Wt) (D : DataW Unit) (t : Wt) : Prop where
  heap : HeapAt wr c.T c.K c.nc f'
  kp : ∃ g, Kp (fun t j => t.isOf j (c.its j)) c.n c.kc c.keep f' g
  zero : ∀ j, c.kc ≤ j → j < i → f' j = Wt.zero
  first : WtAt wr c.w.heap.size 0 t
  ffz : ∀ j, wr.frozen? ⟨c.w.heap.size, j, none⟩ = false
  c0 : wr.cell? ⟨c.b, c.o, none⟩ = some (.slice (some ⟨c.T, 0, none⟩) c.nc c.nc)
  c1 : wr.cell? ⟨c.b, c.o + 1, none⟩ = some (.int .i64 nv)
  c2 : wr.cell? ⟨c.b, c.o + 2, none⟩ = some (.map (some c.m))
  c3 : wr.cell? ⟨c.b, c.o + 3, none⟩ = some (.int .i64 (tsum c.cost c.n - dsum c.keep c.cost c.n))
  coth : ∀ j, c.o + 4 ≤ j → wr.cell? ⟨c.b, j, none⟩ = c.w.cell? ⟨c.b, j, none⟩
  bfz : ∀ j, wr.frozen? ⟨c.b, j, none⟩ = false
  own : OwnsIds wr c.m c.N D
  has : ∀ i, i < c.n → Maps.has D (idLit (idOf i)) = c.keep i
  size : Maps.size D = c.kc
  fr : Fr c.S c.w wr
  sz : c.w.heap.size < wr.heap.size
theorem DS.done {c : Cx} {wr : World} {f' : Nat → Wt} {D : DataW Unit} {t : Wt} (h : DS c wr c.n f' D t) (hc : c.ok) : ES c wr c.kc c.n f' D t := by
  refine ⟨h.heap, ?_, fun j h1 h2 => by omega, h.first, h.ffz, h.c0, h.c1, h.c2, h.c3, h.coth, h.bfz, h.own, fun i hi => ?_, ?_, h.fr, h.sz⟩
  · obtain ⟨g, g1, g2⟩ := h.gat
    refine ⟨g, fun j hj => ?_, fun j j' hj hj' e => ?_⟩
    · obtain ⟨a, b, d⟩ := g1 j hj
      exact ⟨a, b, by rw [d]; exact hc.of_ _ a⟩
    · rcases Nat.lt_trichotomy j j' with h | h | h
      · have := g2 j j' h hj'; omega
      · exact h
      · have := g2 j' j h hj; omega
  · rw [h.has i hi]; simp; intro h1; omega
  · have := h.size; unfold Cx.kc; omega
theorem ES.below {c : Cx} {wr w2 : World} {i nv : Nat} {f' : Nat → Wt} {D : DataW Unit} {t : Wt} (h : ES c wr i nv f' D t) (hc : c.ok) (hb : Below wr.heap.size wr w2) : ES c w2 i nv f' D t := by
  have hs := h.fr.size
  have hl := hc.lt
  have cb : ∀ j, w2.cell? ⟨c.b, j, none⟩ = wr.cell? ⟨c.b, j, none⟩ := fun j => hb.cell (by show c.b < _; omega)
  have fb : ∀ j, w2.frozen? ⟨c.b, j, none⟩ = wr.frozen? ⟨c.b, j, none⟩ := fun j => hb.frozen (by show c.b < _; omega)
  exact ⟨h.heap.below hb, h.kp, h.zero, h.first.below hb, fun j => by rw [hb.frozen (by exact h.sz)]; exact h.ffz j, (cb _).trans h.c0, (cb _).trans h.c1, (cb _).trans h.c2, (cb _).trans h.c3, fun j hj => (cb j).trans (h.coth j hj), fun j => (fb j).trans (h.bfz j),
    ownsIds_below h.own hb, h.has, h.size, h.fr.trans (Fr.of_below hb), by have := hb.size; have := h.sz; omega⟩
theorem ownsIds_put {w : World} {m n b o : Nat} {D : DataW Unit} {t : Wt} (h : OwnsIds w m n D) (hne : m ≠ b) : OwnsIds (putWt w b o t) m n D := by
  obtain ⟨es, cl, a1, a2⟩ := h
  refine ⟨es, cl, ?_, a2⟩
  unfold putWt
  rw [Below.heap_setCell, Below.heap_setCell, Below.heap_setCell, Below.heap_setCell, Below.heap_setCell]
  · exact a1
  all_goals (show m ≠ _; exact hne)
theorem ES.zeroStep {c : Cx} {wr : World} {i nv : Nat} {f' : Nat → Wt} {D : DataW Unit} {t : Wt} (h : ES c wr i nv f' D t) (hc : c.ok) (hi : i < c.n) (hk : c.kc ≤ i) :
    ES c (putWt wr (c.K + i / 1024) (i % 1024 * 5) Wt.zero) (i + 1) nv (fun j => if j = i then Wt.zero else f' j) D t := by
  obtain ⟨h1, h2, h3, h4, h5, h6, h7, h8, h9, h10, h11, h12⟩ := hc
  have cb : ∀ b j, (b < c.K ∨ c.K + c.nc ≤ b) → (putWt wr (c.K + i / 1024) (i % 1024 * 5) Wt.zero).cell? ⟨b, j, none⟩ = wr.cell? ⟨b, j, none⟩ := fun b j hb => putWt_other _ _ _ _ _ _ (by omega)
  refine ⟨h.heap.put h4 _ (by omega) _, ?_, fun j hj hj2 => ?_, h.first.of_eq fun j hj => cb _ _ (Or.inr h10), fun j => by rw [putWt_frozen]; exact h.ffz j, (cb _ _ (Or.inr h6)).trans h.c0, (cb _ _ (Or.inr h6)).trans h.c1, (cb _ _ (Or.inr h6)).trans h.c2, (cb _ _ (Or.inr h6)).trans h.c3, fun j hj => (cb _ _ (Or.inr h6)).trans (h.coth j hj), fun j => by rw [putWt_frozen]; exact h.bfz j,
    ownsIds_put h.own (by omega), h.has, h.size, h.fr.put (Or.inl (Or.inl (by omega))), by simpa using h.sz⟩
  · obtain ⟨g, g1, g2⟩ := h.kp
    refine ⟨g, fun j hj => ?_, g2⟩
    simp only [show ¬ j = i by omega, if_false]; exact g1 j hj
  · by_cases e : j = i
    · simp [e]
    · simp only [e, if_false]; exact h.zero j hj (by omega)
theorem ES.setN {c : Cx} {wr : World} {i nv nv' : Nat} {f' : Nat → Wt} {D : DataW Unit} {t : Wt} (h : ES c wr i nv f' D t) (hc : c.ok) : ES c (wr.setCell ⟨c.b, c.o + 1, none⟩ (.int .i64 nv')) i nv' f' D t := by
  obtain ⟨h1, h2, h3, h4, h5, h6, h7, h8, h9, h10, h11, h12⟩ := hc
  have cb : ∀ b j, (b = c.b → j ≠ c.o + 1) → (wr.setCell ⟨c.b, c.o + 1, none⟩ (.int .i64 nv')).cell? ⟨b, j, none⟩ = wr.cell? ⟨b, j, none⟩ := fun b j hb => World.cell?_setCell_other _ _ _ _ (by intro e; injection e with e1 e2 e3; exact hb e1.symm e2.symm)
  refine ⟨⟨fun i hi => (cb _ _ (by omega)).trans (h.heap.tab i hi), fun i o hi => by rw [World.frozen?_setCell]; exact h.heap.thaw i o hi, fun i hi => (h.heap.at_ i hi).of_eq fun j hj => cb _ _ (by omega)⟩, h.kp, h.zero, h.first.of_eq fun j hj => cb _ _ (by omega), fun j => by rw [World.frozen?_setCell]; exact h.ffz j,
    (cb _ _ (by omega)).trans h.c0, World.cell?_setCell_same _ _ _ h.c1, (cb _ _ (by omega)).trans h.c2, (cb _ _ (by omega)).trans h.c3, fun j hj => (cb _ _ (by omega)).trans (h.coth j hj), fun j => by rw [World.frozen?_setCell]; exact h.bfz j, h.own.setCell (by exact Ne.symm h7) _, h.has, h.size, h.fr.setCell (Or.inl (Or.inr (Or.inr rfl))) _, by simpa using h.sz⟩
theorem ES.init {c : Cx} {wr w2 : World} {nv : Nat} {f' f2 : Nat → Wt} {D : DataW Unit} {t : Wt} (h : ES c wr c.n nv f' D t) (hc : c.ok) (hf : HeapAt w2 c.T c.K c.nc f2) (hp : Pm c.kc f' f2) (hfr : Fr (fun k => c.K ≤ k ∧ k < c.K + c.nc) wr w2) : ES c w2 c.n nv f2 D t := by
  obtain ⟨h1, h2, h3, h4, h5, h6, h7, h8, h9, h10, h11, h12⟩ := hc
  have hsz := h.sz
  have hs2 := h.fr.size
  have blk : ∀ b, b < wr.heap.size → (b < c.K ∨ c.K + c.nc ≤ b) → w2.heap[b]? = wr.heap[b]? := fun b hb h => hfr.block b hb (by omega)
  have cb : ∀ j, w2.cell? ⟨c.b, j, none⟩ = wr.cell? ⟨c.b, j, none⟩ := fun j => World.cell?_of_block (w := wr) (blk c.b (by omega) (Or.inr h6))
  refine ⟨hf, ?_, fun j hj hj2 => by rw [hp.past j hj]; exact h.zero j hj hj2, h.first.of_eq fun j hj => World.cell?_of_block (w := wr) (blk _ (by exact hsz) (Or.inr h10)), fun j => by rw [World.frozen?_of_block (w := wr) (blk c.w.heap.size hsz (Or.inr h10))]; exact h.ffz j, (cb _).trans h.c0, (cb _).trans h.c1, (cb _).trans h.c2, (cb _).trans h.c3, fun j hj => (cb _).trans (h.coth j hj),
    fun j => by rw [World.frozen?_of_block (w := wr) (blk c.b (by omega) (Or.inr h6))]; exact h.bfz j, ?_, h.has, h.size, h.fr.trans ⟨hfr.os, hfr.tape, hfr.output, hfr.size, fun i hi hn => hfr.block i hi (fun e => hn (Or.inl e))⟩, by have := hfr.size; omega⟩
  · obtain ⟨g, hg⟩ := h.kp
    exact hg.pm hp
  · obtain ⟨es, cl, a1, a2⟩ := h.own
    exact ⟨es, cl, by rw [blk c.m (by omega) (Or.inr h5)]; exact a1, a2⟩
end Go.Proofs.Ybulkcgeg
