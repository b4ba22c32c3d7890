import Derived.Test.YbulkcgegA3
import Derived.Test.YbulkcgegRows
import Derived.ProofKit
import Derived.OpenShut
import Derived.Deep.Slices
import Derived.Lib.SmallJoins
namespace Go.Proofs.Ybulkcgeg
open Go.ChangeShapes Go.WideShapes Go.ChangeAt Go.RowKit Go.Deep Go.Joins
theorem Yba.cells33 : Yba.prog.cellsOf 33 = 4 := by kernel_rfl
theorem Yba.cells2 : Yba.prog.cellsOf 2 = 1 := by kernel_rfl
theorem Yba.cells23 : Yba.prog.cellsOf 23 = 1 := by kernel_rfl
theorem Yba.cells5 : Yba.prog.cellsOf 5 = 1 := by kernel_rfl
theorem plain_of_cell {w : World} {a : Addr} {v : Value} (h : w.cell? a = some v) : a = ⟨a.block, a.off, none⟩ := by
  obtain ⟨b, o, s⟩ := a
  cases s with
  | none => rfl
  | some s => 
    unfold World.cell? at h
    split at h <;> simp at h
set_option maxRecDepth 100000 in
theorem items_open {H : Type} {enc : TypeId × Value → H} {W : World} {base : Nat} {spare : Nat → Bool} {held : Bool} {fuel : Nat} {cs : List Value} {x : DataW H × List MemPlace}
    (h : DataW.trod enc Yba.prog W base spare held fuel 22 cs = some x) : ∃ (a : Option Addr) (len cap b off : Nat) (its : Nat → Item), cs = [.slice a len cap] ∧ (0 < len → a = some ⟨b, off, none⟩) ∧ ItemsAt W b off len its := by
  rcases open_slice Yba.underlying22 h with ⟨rfl, _⟩ | ⟨a, len, cap, m, n, D, Pl, rfl, hb, hl, hm, hmm, rfl, hx⟩
  · exact ⟨none, 0, 0, 0, 0, fun _ => ⟨0, 0, 0, 0⟩, rfl, fun h => absurd h (by omega), ⟨fun i h => absurd h (by omega), fun i h => absurd h (by omega), fun i h => absurd h (by omega), fun i h => absurd h (by omega), fun i h => absurd h (by omega), fun h => absurd h (by omega)⟩⟩
  · have hlm : len ≤ m := by rw [hmm]; split <;> omega
    by_cases h0 : 0 < len
    · have each : ∀ i, i < len → ∃ t : Item, W.cell? (a.add (i * 4)) = some (.int .i64 t.due) ∧ W.cell? (a.add (i * 4 + 1)) = some (.int .u64 t.seq) ∧ W.cell? (a.add (i * 4 + 2)) = some (.int .u8 t.mem) ∧ W.cell? (a.add (i * 4 + 3)) = some (.int .u8 t.parts) ∧ t.ok := by
        intro i hi
        obtain ⟨cs', h1, h2⟩ := hx i (by omega)
        rw [Yba.cells33] at h1
        obtain ⟨_, hlen, hcell⟩ := World.cells?_some h1
        obtain ⟨y0, y1, y2, y3, k, _, _, g0, g1, g2, g3⟩ := trod_struct4 Yba.underlying33 h2
        match cs', hlen with
        | [v0, v1, v2, v3], _ =>
          simp only [Yba.cells2, Yba.cells23, Yba.cells5, List.drop_zero, List.take_succ_cons, List.take_zero, List.drop_succ_cons] at g0 g1 g2 g3
          obtain ⟨z0, e0, _, w0⟩ := DataW.trod_int Yba.underlying2 g0
          obtain ⟨z1, e1, _, w1⟩ := DataW.trod_int Yba.underlying23 g1
          obtain ⟨z2, e2, _, w2⟩ := DataW.trod_int Yba.underlying5 g2
          obtain ⟨z3, e3, _, w3⟩ := DataW.trod_int Yba.underlying5 g3
          simp only [List.cons.injEq, and_true] at e0 e1 e2 e3
          subst e0 e1 e2 e3
          have c0 := hcell 0 (by omega)
          have c1 := hcell 1 (by omega)
          have c2 := hcell 2 (by omega)
          have c3 := hcell 3 (by omega)
          rw [add_add] at c0 c1 c2 c3
          have b2 := bounds_u8 w2
          have b3 := bounds_u8 w3
          exact ⟨⟨z0, z1, z2, z3⟩, by simpa using c0, by simpa using c1, by simpa using c2, by simpa using c3, ⟨b2.1, b2.2, b3.1, b3.2⟩⟩
      have inh : Inhabited Item := ⟨⟨0, 0, 0, 0⟩⟩
      obtain ⟨its, hits⟩ := choose_lt each
      have hp : a = ⟨a.block, a.off, none⟩ := by
        have := (hits 0 h0).1
        rw [show 0 * 4 = 0 from rfl] at this
        have h2 : a.add 0 = a := by simp [Addr.add]
        rw [h2] at this
        exact plain_of_cell this
      obtain ⟨b, off, s⟩ := a
      simp only [Addr.mk.injEq, true_and] at hp
      subst hp
      refine ⟨some ⟨b, off, none⟩, len, cap, b, off, its, rfl, fun _ => rfl, ⟨fun i hi => ?_, fun i hi => ?_, fun i hi => ?_, fun i hi => ?_, fun i hi => (hits i hi).2.2.2.2, fun _ => ?_⟩⟩
      · have := (hits i hi).1; rwa [add_plain] at this
      · have := (hits i hi).2.1; rwa [add_plain] at this
      · have := (hits i hi).2.2.1; rwa [add_plain] at this
      · have := (hits i hi).2.2.2.1; rwa [add_plain] at this
      · have := (hits 0 h0).1; rw [add_plain] at this; exact World.block_lt_of_cell? _ _ this
    · exact ⟨some a, len, cap, 0, 0, fun _ => ⟨0, 0, 0, 0⟩, rfl, fun h => absurd h h0, ⟨fun i h => absurd h (by omega), fun i h => absurd h (by omega), fun i h => absurd h (by omega), fun i h => absurd h (by omega), fun i h => absurd h (by omega), fun h => absurd h (by omega)⟩⟩
end Go.Proofs.Ybulkcgeg
