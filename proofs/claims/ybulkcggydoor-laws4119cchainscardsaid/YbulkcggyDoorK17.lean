import Derived.Test.YbulkcggyDoorK16
import Derived.Test.YbulkcggyDoorRows
import Derived.ProofKit
import Derived.OpenShut
import Derived.Deep.Slices
import Derived.Lib.SmallJoins
namespace Go.Proofs.YbulkcggyDoor
open Go.ChangeShapes Go.WideShapes Go.ChangeAt Go.RowKit Go.Deep Go.Joins
set_option linter.unusedVariables false
theorem Ybad.cells37 : Ybad.prog.cellsOf 37 = 6 := by kernel_rfl
theorem Ybad.cells35 : Ybad.prog.cellsOf 35 = 1 := by kernel_rfl
theorem Ybad.cells5 : Ybad.prog.cellsOf 5 = 1 := by kernel_rfl
theorem plain_of_cell {w : World} {a : Addr} {v : Value} (h : w.cell? a = some v) : a = ⟨a.block, a.off, none⟩ := by
  obtain ⟨b, o, s⟩ := a
  cases s with
  | none => rfl
  | some s => 
    unfold World.cell? at h
    split at h <;> simp at h
theorem trod6 {H : Type} {enc : TypeId × Value → H} {P : Program} {w : World} {base : Nat} {spare : Nat → Bool} {held : Bool} {t : TypeId} {f0 f1 f2 f3 f4 f5 : Field} {fuel : Nat} {cs : List Value} {x : DataW H × List MemPlace} (ht : P.underlying t = some (.struct #[f0, f1, f2, f3, f4, f5])) (h : DataW.trod enc P w base spare held fuel t cs = some x) :
    ∃ y0 y1 y2 y3 y4 y5 n, cs.length = P.cellsOf t ∧ DataW.trod enc P w base spare held n f0.type ((cs.drop f0.offset).take (P.cellsOf f0.type)) = some y0 ∧
      DataW.trod enc P w base spare held n f1.type ((cs.drop f1.offset).take (P.cellsOf f1.type)) = some y1 ∧ DataW.trod enc P w base spare held n f2.type ((cs.drop f2.offset).take (P.cellsOf f2.type)) = some y2 ∧
      DataW.trod enc P w base spare held n f3.type ((cs.drop f3.offset).take (P.cellsOf f3.type)) = some y3 ∧ DataW.trod enc P w base spare held n f4.type ((cs.drop f4.offset).take (P.cellsOf f4.type)) = some y4 ∧
      DataW.trod enc P w base spare held n f5.type ((cs.drop f5.offset).take (P.cellsOf f5.type)) = some y5 := by
  obtain ⟨xs, n, _, rfl, hl, hlen, hf⟩ := DataW.trod_struct ht h
  match xs, hlen with
  | [y0, y1, y2, y3, y4, y5], _ => exact ⟨y0, y1, y2, y3, y4, y5, n, hl, by simpa using hf 0 f0 rfl, by simpa using hf 1 f1 rfl, by simpa using hf 2 f2 rfl, by simpa using hf 3 f3 rfl, by simpa using hf 4 f4 rfl, by simpa using hf 5 f5 rfl⟩
set_option maxRecDepth 100000 in
theorem item_open {H : Type} {enc : TypeId × Value → H} {W : World} {base : Nat} {spare : Nat → Bool} {held : Bool} {fuel : Nat} {cs : List Value} {x : DataW H × List MemPlace}
    (h : DataW.trod enc Ybad.prog W base spare held fuel 37 cs = some x) : ∃ t : It, cs = [.int .i8 t.qt, .int .u8 t.e, .int .u8 t.k, .int .u8 t.s, .int .u8 t.r, .int .i8 t.bid] ∧ t.ok := by
  obtain ⟨y0, y1, y2, y3, y4, y5, n, hl, g0, g1, g2, g3, g4, g5⟩ := trod6 Ybad.underlying37 h
  rw [Ybad.cells37] at hl
  match cs, hl with
  | [v0, v1, v2, v3, v4, v5], _ =>
    simp only [Ybad.cells35, Ybad.cells5, List.drop_zero, List.take_succ_cons, List.take_zero, List.drop_succ_cons] at g0 g1 g2 g3 g4 g5
    obtain ⟨z0, e0, _, w0⟩ := DataW.trod_int Ybad.underlying35 g0
    obtain ⟨z1, e1, _, w1⟩ := DataW.trod_int Ybad.underlying5 g1
    obtain ⟨z2, e2, _, w2⟩ := DataW.trod_int Ybad.underlying5 g2
    obtain ⟨z3, e3, _, w3⟩ := DataW.trod_int Ybad.underlying5 g3
    obtain ⟨z4, e4, _, w4⟩ := DataW.trod_int Ybad.underlying5 g4
    obtain ⟨z5, e5, _, w5⟩ := DataW.trod_int Ybad.underlying35 g5
    simp only [List.cons.injEq, and_true] at e0 e1 e2 e3 e4 e5
    subst e0 e1 e2 e3 e4 e5
    have b0 := bounds_i8 w0
    have b1 := bounds_u8 w1
    have b2 := bounds_u8 w2
    have b3 := bounds_u8 w3
    have b4 := bounds_u8 w4
    have b5 := bounds_i8 w5
    exact ⟨⟨z0, z1, z2, z3, z4, z5⟩, rfl, ⟨b0.1, b0.2, b1.1, b1.2, b2.1, b2.2, b3.1, b3.2, b4.1, b4.2, b5.1, b5.2⟩⟩
set_option maxRecDepth 100000 in
theorem items_open {H : Type} {enc : TypeId × Value → H} {W : World} {base : Nat} {spare : Nat → Bool} {held : Bool} {fuel : Nat} {cs : List Value} {x : DataW H × List MemPlace}
    (h : DataW.trod enc Ybad.prog W base spare held fuel 22 cs = some x) : ∃ (a : Option Addr) (len cap : Nat) (its : Nat → It), cs = [.slice a len cap] ∧ (∀ i, i < len → (its i).ok) ∧ ∀ i, i < len → ∃ ib io, a = some ⟨ib, io, none⟩ ∧ I6 W ib (io + i * 6) (its i) := by
  rcases open_slice Ybad.underlying22 h with ⟨rfl, _⟩ | ⟨a, len, cap, m, n, D, Pl, rfl, hb, hl, hm, hmm, rfl, hx⟩
  · exact ⟨none, 0, 0, fun _ => ⟨0, 0, 0, 0, 0, 0⟩, rfl, fun i h => absurd h (by omega), fun i h => absurd h (by omega)⟩
  · have hlm : len ≤ m := by rw [hmm]; split <;> omega
    have each : ∀ i, i < len → ∃ t : It, t.ok ∧ ∀ j v, [Value.int .i8 t.qt, .int .u8 t.e, .int .u8 t.k, .int .u8 t.s, .int .u8 t.r, .int .i8 t.bid][j]? = some v → W.cell? (a.add (i * 6 + j)) = some v := by
      intro i hi
      obtain ⟨cs', h1, h2⟩ := hx i (by omega)
      rw [Ybad.cells37] at h1
      obtain ⟨_, hlen, hcell⟩ := World.cells?_some h1
      obtain ⟨t, rfl, hok⟩ := item_open h2
      refine ⟨t, hok, fun j v hj => ?_⟩
      have hj6 : j < 6 := (List.getElem?_eq_some_iff.1 hj).1
      have := hcell j (by simpa using hj6)
      rw [add_add] at this
      rw [this]
      exact hj
    have inh : Inhabited It := ⟨⟨0, 0, 0, 0, 0, 0⟩⟩
    obtain ⟨its, hits⟩ := choose_lt each
    refine ⟨some a, len, cap, its, rfl, fun i hi => (hits i hi).1, fun i hi => ?_⟩
    have h0 := (hits 0 (by omega)).2 0 _ rfl
    rw [show a.add (0 * 6 + 0) = a by simp [Addr.add]] at h0
    have hp := plain_of_cell h0
    obtain ⟨b, o, s⟩ := a
    simp only [Addr.mk.injEq, true_and] at hp
    subst hp
    have c : ∀ j v, [Value.int .i8 (its i).qt, .int .u8 (its i).e, .int .u8 (its i).k, .int .u8 (its i).s, .int .u8 (its i).r, .int .i8 (its i).bid][j]? = some v → W.cell? ⟨b, o + i * 6 + j, none⟩ = some v := fun j v hj => by
      have := (hits i hi).2 j v hj
      rw [show (⟨b, o, none⟩ : Addr).add (i * 6 + j) = ⟨b, o + i * 6 + j, none⟩ by unfold Addr.add; split <;> simp_all <;> omega] at this
      exact this
    exact ⟨b, o, rfl, ⟨c 0 _ rfl, c 1 _ rfl, c 2 _ rfl, c 3 _ rfl, c 4 _ rfl, c 5 _ rfl⟩⟩
end Go.Proofs.YbulkcggyDoor
