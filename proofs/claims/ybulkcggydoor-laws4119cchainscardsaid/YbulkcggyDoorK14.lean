import Derived.Test.YbulkcggyDoorK11
namespace Go.Proofs.YbulkcggyDoor
open Go.RowKit
set_option linter.unusedVariables false
set_option linter.unusedSectionVars false
set_option linter.unusedSimpArgs false
set_option maxRecDepth 100000
/-- A list of values, put into the cells of block b from o on. -/
def putL (w : World) (b : Nat) : Nat → List Value → World
  | _, [] => w
  | o, v :: vs => putL (w.setCell ⟨b, o, none⟩ v) b (o + 1) vs
theorem put_other (b : Nat) : ∀ (vs : List Value) (w : World) (o : Nat) (g : Nat), g ≠ b → (putL w b o vs).heap[g]? = w.heap[g]?
  | [], _, _, _, _ => rfl
  | v :: vs, w, o, g, h => by
    rw [putL, put_other b vs _ _ g h, Below.heap_setCell _ _ _ _ h]
theorem put_size (b : Nat) : ∀ (vs : List Value) (w : World) (o : Nat), (putL w b o vs).heap.size = w.heap.size
  | [], _, _ => rfl
  | v :: vs, w, o => by rw [putL, put_size b vs]; simp
theorem put_os (b : Nat) : ∀ (vs : List Value) (w : World) (o : Nat), (putL w b o vs).os = w.os ∧ (putL w b o vs).tape = w.tape ∧ (putL w b o vs).output = w.output
  | [], _, _ => ⟨rfl, rfl, rfl⟩
  | v :: vs, w, o => by rw [putL]; exact put_os b vs _ _
theorem put_frozen (b : Nat) : ∀ (vs : List Value) (w : World) (o : Nat) (a : Addr), (putL w b o vs).frozen? a = w.frozen? a
  | [], _, _, _ => rfl
  | v :: vs, w, o, a => by rw [putL, put_frozen b vs, World.frozen?_setCell]
theorem put_out (b : Nat) : ∀ (vs : List Value) (w : World) (o j : Nat), (j < o ∨ o + vs.length ≤ j) → (putL w b o vs).cell? ⟨b, j, none⟩ = w.cell? ⟨b, j, none⟩
  | [], _, _, _, _ => rfl
  | v :: vs, w, o, j, h => by
    simp only [List.length_cons] at h
    rw [putL, put_out b vs _ _ j (by omega), World.cell?_setCell_other _ _ _ _ (by intro e; injection e with _ e _; omega)]
theorem put_in (b : Nat) : ∀ (vs : List Value) (w : World) (o : Nat), (∀ j, j < vs.length → ∃ v, w.cell? ⟨b, o + j, none⟩ = some v) → ∀ j u, vs[j]? = some u → (putL w b o vs).cell? ⟨b, o + j, none⟩ = some u
  | [], _, _, _, j, u, hj => by simp at hj
  | v :: vs, w, o, h, 0, u, hj => by
    simp at hj
    subst hj
    obtain ⟨x, hx⟩ := h 0 (by simp)
    rw [putL, put_out b vs _ _ _ (by omega)]
    exact World.cell?_setCell_same _ _ _ hx
  | v :: vs, w, o, h, j + 1, u, hj => by
    rw [putL]
    have := put_in b vs (w.setCell ⟨b, o, none⟩ v) (o + 1) (fun j hj => by
      obtain ⟨x, hx⟩ := h (j + 1) (by simp; omega)
      rw [show o + (j + 1) = o + 1 + j by omega] at hx
      exact ⟨x, by rw [World.cell?_setCell_other _ _ _ _ (by intro e; injection e with _ e _; omega)]; exact hx⟩) j u (by simpa using hj)
    rw [show o + (j + 1) = o + 1 + j by omega]
    exact this
set_option maxHeartbeats 2000000 in
theorem store_q (W : World) (qb o : Nat) (t : It) (i : Nat) (hc : ∀ j, j < 14 → ∃ v, W.cell? ⟨qb, o + j, none⟩ = some v) (hfz : ∀ j, W.frozen? ⟨qb, j, none⟩ = false) :
    (storeVar 42 ⟨qb, o, none⟩ (.agg #[.int .u64 0, .int .i64 t.tm, .pointer none, .string ⟨#[66, 84, 67]⟩, .int .u64 0, .int .i64 (xp t.ee), .pointer none, .int .i64 (((t.kk : Int) + 1) * 10 ^ t.ss), .int .i64 t.ss, .int .i64 t.rr, .int .i64 t.bid, .int .i64 0, .int .i64 ((i : Int) + 1), .int .i64 0])).run Ybad.prog W = .ok () (putL W qb o (qc t i)) := by
  obtain ⟨v0, z0⟩ := hc 0 (by omega)
  obtain ⟨v1, z1⟩ := hc 1 (by omega)
  obtain ⟨v2, z2⟩ := hc 2 (by omega)
  obtain ⟨v3, z3⟩ := hc 3 (by omega)
  obtain ⟨v4, z4⟩ := hc 4 (by omega)
  obtain ⟨v5, z5⟩ := hc 5 (by omega)
  obtain ⟨v6, z6⟩ := hc 6 (by omega)
  obtain ⟨v7, z7⟩ := hc 7 (by omega)
  obtain ⟨v8, z8⟩ := hc 8 (by omega)
  obtain ⟨v9, z9⟩ := hc 9 (by omega)
  obtain ⟨v10, z10⟩ := hc 10 (by omega)
  obtain ⟨v11, z11⟩ := hc 11 (by omega)
  obtain ⟨v12, z12⟩ := hc 12 (by omega)
  obtain ⟨v13, z13⟩ := hc 13 (by omega)
  rw [Nat.add_zero] at z0
  clear hc
  unfold qc
  simp only [putL]
  go_simp
theorem wp_store_run {o : Oper} {a : Act} {w w' : World} {K : Act → World → Prop} {Q : Exit → Act → World → Prop} (ty : TypeId) (x y : Operand) (ho : o.op = .store ty x y) (ad : Addr) (hx : a.eval x = .pointer (some ad)) (v : Value) (hy : a.eval y = v) (hrun : (storeVar ty ad v).run Ybad.prog w = .ok () w')
    (h : K (a.put o.dst undef) w') : o.wp Ybad.prog a w K Q := by
  unfold Oper.wp execOp
  simp only [ho, hx, hy, Instr.storeAt, Instr.sureAddr, Sem.run_bind, Sem.run_pure, Result.andThen_ok, hrun]
  exact h
end Go.Proofs.YbulkcggyDoor
