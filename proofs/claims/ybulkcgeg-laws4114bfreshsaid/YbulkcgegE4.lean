import Derived.Test.YbulkcgegE3
namespace Go.Proofs.Ybulkcgeg
open Go.RowKit Go.Maps Go.WideMaps
set_option linter.unusedVariables false
set_option linter.unusedSimpArgs false
theorem Fr.frozen {S : Nat → Prop} {w w' : World} (h : Fr S w w') {b o : Nat} (hb : b < w.heap.size) (hs : ¬ S b) : w'.frozen? ⟨b, o, none⟩ = w.frozen? ⟨b, o, none⟩ :=
  World.frozen?_of_block (w := w) (h.block b hb hs)
/-- What queue.dropBefore leaves. -/
structure QF (c : Cx) (w0 w' : World) (f' : Nat → Wt) (D : DataW Unit) (xb : Int) : Prop where
  heap : HeapAt w' c.T c.K c.nc f'
  kp : ∃ g, Kp (fun t j => t.isOf j (c.its j)) c.n c.kc c.keep f' g
  zero : ∀ j, c.kc ≤ j → j < c.n → f' j = Wt.zero
  hp : HP ltW c.kc f' 0
  c0 : w'.cell? ⟨c.b, 0, none⟩ = some (.slice (some ⟨c.T, 0, none⟩) c.nc c.nc)
  c1 : w'.cell? ⟨c.b, 1, none⟩ = some (.int .i64 c.kc)
  c2 : w'.cell? ⟨c.b, 2, none⟩ = some (.map (some c.m))
  c3 : w'.cell? ⟨c.b, 3, none⟩ = some (.int .i64 (tsum c.cost c.n - dsum c.keep c.cost c.n))
  c5 : w'.cell? ⟨c.b, 5, none⟩ = some (.int .i64 0)
  c11 : w'.cell? ⟨c.b, 11, none⟩ = some (.map none)
  c16 : w'.cell? ⟨c.b, 16, none⟩ = some (.int .i64 xb)
  f16 : w'.frozen? ⟨c.b, 16, none⟩ = false
  own : OwnsIds w' c.m c.N D
  has : ∀ i, i < c.n → Maps.has D (idLit (idOf i)) = c.keep i
  size : Maps.size D = c.kc
  fr : Fr c.S w0 w'
theorem ES.toQF {c : Cx} {w0 wr : World} {f' : Nat → Wt} {D : DataW Unit} {t : Wt} {xb : Int} (h : ES c wr c.n c.kc f' D t) (hp : HP ltW c.kc f' 0) (ho : c.o = 0) (hfr : Fr c.S w0 c.w) (h5 : c.w.cell? ⟨c.b, 5, none⟩ = some (.int .i64 0)) (h11 : c.w.cell? ⟨c.b, 11, none⟩ = some (.map none)) (h16 : c.w.cell? ⟨c.b, 16, none⟩ = some (.int .i64 xb)) : QF c w0 wr f' D xb := by
  have h0 := h.c0; have h1 := h.c1; have h2 := h.c2; have h3 := h.c3
  rw [ho] at h0 h1 h2 h3
  exact ⟨h.heap, h.kp, h.zero, hp, h0, h1, h2, h3, (h.coth 5 (by omega)).trans h5, (h.coth 11 (by omega)).trans h11, (h.coth 16 (by omega)).trans h16, h.bfz 16, h.own, h.has, h.size, hfr.trans h.fr⟩
theorem QF.put {c : Cx} {w0 wr : World} {f' : Nat → Wt} {D : DataW Unit} {xb : Int} (h : QF c w0 wr f' D xb) (hc : c.ok) {nb : Nat} (t : Wt) (h1 : c.K + c.nc ≤ nb) (h2 : nb ≠ c.m) (h3 : nb ≠ c.b) (h4 : w0.heap.size ≤ nb) : QF c w0 (putWt wr nb 0 t) f' D xb := by
  have hTK := hc.TK
  have cb : ∀ b j, b ≠ nb → (putWt wr nb 0 t).cell? ⟨b, j, none⟩ = wr.cell? ⟨b, j, none⟩ := fun b j hb => putWt_other _ _ _ _ _ _ (Or.inl hb)
  exact ⟨⟨fun i hi => (cb _ _ (by omega)).trans (h.heap.tab i hi), fun i o hi => by rw [putWt_frozen]; exact h.heap.thaw i o hi, fun i hi => (h.heap.at_ i hi).of_eq fun j hj => cb _ _ (by omega)⟩, h.kp, h.zero, h.hp, (cb _ _ (Ne.symm h3)).trans h.c0, (cb _ _ (Ne.symm h3)).trans h.c1, (cb _ _ (Ne.symm h3)).trans h.c2, (cb _ _ (Ne.symm h3)).trans h.c3, (cb _ _ (Ne.symm h3)).trans h.c5, (cb _ _ (Ne.symm h3)).trans h.c11, (cb _ _ (Ne.symm h3)).trans h.c16,
    by rw [putWt_frozen]; exact h.f16, ownsIds_put h.own (Ne.symm h2), h.has, h.size, h.fr.put (Or.inr h4)⟩
theorem QF.set16 {c : Cx} {w0 wr : World} {f' : Nat → Wt} {D : DataW Unit} {xb xb' : Int} (h : QF c w0 wr f' D xb) (hc : c.ok) : QF c w0 (wr.setCell ⟨c.b, 16, none⟩ (.int .i64 xb')) f' D xb' := by
  obtain ⟨h1, h2, h3, h4, h5, h6, h7, h8, h9, h10, h11, h12⟩ := hc
  have cb : ∀ b j, (b = c.b → j ≠ 16) → (wr.setCell ⟨c.b, 16, none⟩ (.int .i64 xb')).cell? ⟨b, j, none⟩ = wr.cell? ⟨b, j, none⟩ := fun b j hb => World.cell?_setCell_other _ _ _ _ (by intro e; injection e with e1 e2 e3; exact hb e1.symm e2.symm)
  exact ⟨⟨fun i hi => (cb _ _ (by omega)).trans (h.heap.tab i hi), fun i o hi => by rw [World.frozen?_setCell]; exact h.heap.thaw i o hi, fun i hi => (h.heap.at_ i hi).of_eq fun j hj => cb _ _ (by omega)⟩, h.kp, h.zero, h.hp, (cb _ _ (by omega)).trans h.c0, (cb _ _ (by omega)).trans h.c1, (cb _ _ (by omega)).trans h.c2, (cb _ _ (by omega)).trans h.c3, (cb _ _ (by omega)).trans h.c5, (cb _ _ (by omega)).trans h.c11, World.cell?_setCell_same _ _ _ h.c16,
    by rw [World.frozen?_setCell]; exact h.f16, h.own.setCell (by exact Ne.symm h7) _, h.has, h.size, h.fr.setCell (Or.inl (Or.inr (Or.inr rfl))) _⟩
theorem QF.drew {c : Cx} {w0 wr : World} {f' : Nat → Wt} {D : DataW Unit} {xb : Int} (h : QF c w0 wr f' D xb) : QF c w0 wr.drew f' D xb :=
  ⟨h.heap.drew, h.kp, h.zero, h.hp, h.c0, h.c1, h.c2, h.c3, h.c5, h.c11, h.c16, h.f16, h.own.drew, h.has, h.size, h.fr.drew⟩
set_option maxRecDepth 100000 in
set_option maxHeartbeats 2000000 in
theorem qdrop_fresh (c : Cx) (w : World) (hcw : c.w = w.alloc Wt.zero.obj) (hc : c.ok) (ho : c.o = 0) (hbw : c.b < w.heap.size) (hmw : c.m < w.heap.size) (hKw : c.K + c.nc ≤ w.heap.size) (xb : Int) (D0 : DataW Unit) (hstart : DS c (c.w.alloc Wt.zero.obj) 0 c.f D0 Wt.zero)
    (h5 : w.cell? ⟨c.b, 5, none⟩ = some (.int .i64 0)) (h11 : w.cell? ⟨c.b, 11, none⟩ = some (.map none)) (h16 : w.cell? ⟨c.b, 16, none⟩ = some (.int .i64 xb)) :
    Calls Yba.prog 9 #[.pointer (some ⟨c.b, 0, none⟩), .int .u64 c.s] w fun e w' => e = .returned (.tuple #[.int .i64 ((c.n : Int) - kcnt c.keep c.n), (fst c.f (bst c.keep (ltI c.its) c.n)).agg]) ∧ ∃ f' D, QF c w w' f' D (wrap64 (xb - dsum c.keep c.cost c.n)) := by
  have nn := nnil28
  have hD := drop1 c hc D0 hstart
  rw [ho, hcw] at hD
  have HD := hide hD
  have hc5 : c.w.cell? ⟨c.b, 5, none⟩ = some (.int .i64 0) := by rw [hcw, World.cell?_alloc_past _ _ _ hbw]; exact h5
  have hc11 : c.w.cell? ⟨c.b, 11, none⟩ = some (.map none) := by rw [hcw, World.cell?_alloc_past _ _ _ hbw]; exact h11
  have hc16 : c.w.cell? ⟨c.b, 16, none⟩ = some (.int .i64 xb) := by rw [hcw, World.cell?_alloc_past _ _ _ hbw]; exact h16
  have hfw : Fr c.S w c.w := by rw [hcw]; exact Fr.of_below ((Below.refl _ _).alloc (Nat.le_refl _) _)
  have HH := hide (And.intro hc5 (And.intro hc11 (And.intro hc16 (And.intro hfw hcw))))
  clear hD hstart hc5 hc11 hc16 hfw hcw h5
  revert HD
  generalize fst c.f (bst c.keep (ltI c.its) c.n) = t
  intro HD
  go_enter Yba.func9, Yba.ntmps9
  go_wp2_with fail
  refine HD.out.mono ?_
  rintro e w3 ⟨rfl, f', D, hes, hhp⟩
  obtain ⟨k5, k11, k16, kfr, kcw⟩ := HH.out
  have hnS : ¬ c.S w.heap.size := by intro h; unfold Cx.S at h; omega
  have hQ := hes.toQF (w0 := w) hhp ho kfr k5 k11 k16
  have zn := zero_new w
  have hfr3 := hes.fr
  rw [kcw] at hfr3
  obtain ⟨z0, z1, z2, z3, z4⟩ : WtAt w3 w.heap.size 0 Wt.zero := ⟨hfr3.cell hnS zn.c0, hfr3.cell hnS zn.c1, hfr3.cell hnS zn.c2, hfr3.cell hnS zn.c3, hfr3.cell hnS zn.c4⟩
  simp only [Nat.zero_add] at z0 z1 z2 z3 z4
  have zf : ∀ j, w3.frozen? ⟨w.heap.size, j, none⟩ = false := fun j => by rw [hfr3.frozen (by simp) hnS]; simp
  have q16 := hQ.c16
  have qf16 := hQ.f16
  have hne : ¬ w.heap.size = c.b := by omega
  have hne2 : ¬ c.b = w.heap.size := by omega
  have hP := hQ.put hc (nb := w.heap.size) t hKw (by omega) (by omega) (Nat.le_refl _)
  have hS := hide (((hP.set16 (xb' := wrap64 (xb - dsum c.keep c.cost c.n)) hc).put hc (nb := w.heap.size) t hKw (by omega) (by omega) (Nat.le_refl _)).drew)
  have hPw := hide (putWt_same w3 w.heap.size 0 t Wt.zero ⟨z0, by rw [Nat.zero_add]; exact z1, by rw [Nat.zero_add]; exact z2, by rw [Nat.zero_add]; exact z3, by rw [Nat.zero_add]; exact z4⟩)
  clear hes hhp hQ hP zn hfr3 k5 k11 k16 kfr kcw HH HD
  go_wp2_with fail
  go_region
  all_goals go_wp2
  have hZ : WtAt ((putWt w3 w.heap.size 0 t).setCell ⟨c.b, 16, none⟩ (.int .i64 (wrap64 (xb - dsum c.keep c.cost c.n)))) w.heap.size 0 t := hPw.out.of_eq fun j hj => World.cell?_setCell_other _ _ _ _ (by intro e; injection e with e1 e2 e3; exact hne2 e1)
  obtain ⟨p0, p1, p2, p3, p4⟩ := put0 (t := t) hZ
  simp only [Nat.zero_add, putWt] at p0 p1 p2 p3 p4
  exact bodyPost_ret (v := .tuple #[.int .i64 ((c.n : Int) - kcnt c.keep c.n), t.agg]) (by simp [results, Yba.results9, go_sem, p0, p1, p2, p3, p4]) rfl ⟨rfl, f', D, hS.out⟩
end Go.Proofs.Ybulkcgeg
