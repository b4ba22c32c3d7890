import Derived.Test.YbulkcgfiFmtG11
import Derived.Laws.AppendOwnNone
import Derived.Laws.OwnMore
import Derived.Deep.CutBlock
namespace Go.Proofs.YbulkcgfiFmt
open Go.RowKit Go.Extern.Stop Go.Stop Go.Extern
set_option linter.unusedVariables false
set_option linter.unusedSimpArgs false
/-- What a zzs4116cspec holds. -/
structure Sp where
  ts : Int
  f : Nat → Nat
  m : Nat
  err : Bool
  mv : Nat
  fp : Nat → Nat
  ids : Value
  tEnd : Nat
  bEnd : Nat
  mEnd : Nat
  en : Nat
def Sp.c (S : Sp) (j : Nat) : Value :=
  if j = 0 then .int .u64 S.ts else if j < 33 then .int .u8 (if j - 1 < S.m then S.f (j - 1) else 0) else if j = 33 then .int .i64 S.m else if j = 34 then .bool S.err else if j = 35 then .int .u64 S.mv else if j < 52 then .int .u8 (S.fp (j - 36)) else if j = 52 then S.ids else if j = 53 then .int .i64 S.tEnd else if j = 54 then .int .i64 S.bEnd else if j = 55 then .int .i64 S.mEnd else .int .i64 S.en
def Sp.zero : Sp := ⟨0, fun _ => 0, 0, false, 0, fun _ => 0, .slice none 0 0, 0, 0, 0, 0⟩
def z57 : Array Value := #[Value.int IntKind.u64 0, Value.int IntKind.u8 0, Value.int IntKind.u8 0, Value.int IntKind.u8 0, Value.int IntKind.u8 0, Value.int IntKind.u8 0, Value.int IntKind.u8 0, Value.int IntKind.u8 0, Value.int IntKind.u8 0, Value.int IntKind.u8 0, Value.int IntKind.u8 0, Value.int IntKind.u8 0, Value.int IntKind.u8 0, Value.int IntKind.u8 0, Value.int IntKind.u8 0, Value.int IntKind.u8 0, Value.int IntKind.u8 0, Value.int IntKind.u8 0, Value.int IntKind.u8 0, Value.int IntKind.u8 0, Value.int IntKind.u8 0, Value.int IntKind.u8 0, Value.int IntKind.u8 0, Value.int IntKind.u8 0, Value.int IntKind.u8 0, Value.int IntKind.u8 0, Value.int IntKind.u8 0, Value.int IntKind.u8 0, Value.int IntKind.u8 0, Value.int IntKind.u8 0, Value.int IntKind.u8 0, Value.int IntKind.u8 0, Value.int IntKind.u8 0, Value.int IntKind.i64 0, Value.bool false, Value.int IntKind.u64 0, Value.int IntKind.u8 0, Value.int IntKind.u8 0, Value.int IntKind.u8 0, Value.int IntKind.u8 0, Value.int IntKind.u8 0, Value.int IntKind.u8 0, Value.int IntKind.u8 0, Value.int IntKind.u8 0, Value.int IntKind.u8 0, Value.int IntKind.u8 0, Value.int IntKind.u8 0, Value.int IntKind.u8 0, Value.int IntKind.u8 0, Value.int IntKind.u8 0, Value.int IntKind.u8 0, Value.int IntKind.u8 0, Value.slice none 0 0, Value.int IntKind.i64 0, Value.int IntKind.i64 0, Value.int IntKind.i64 0, Value.int IntKind.i64 0]
def Sp.arr (S : Sp) : Array Value := Array.ofFn (n := 57) fun i => S.c i.val
theorem Sp.arr_size (S : Sp) : S.arr.size = 57 := by simp [Sp.arr]
theorem Sp.arr_get (S : Sp) {j : Nat} (hj : j < 57) : S.arr[j]? = some (S.c j) := by
  rw [Array.getElem?_eq_getElem (by rw [Sp.arr_size]; exact hj)]; simp [Sp.arr]
theorem z57_eq : z57 = Sp.zero.arr := Array.ext' (by simp [Sp.arr, z57, Sp.c, Sp.zero])
theorem z57_c (j : Nat) (hj : j < 57) : z57[j]? = some (Sp.zero.c j) := by rw [z57_eq]; exact Sp.arr_get _ hj
/-- Block s holds S. -/
structure SpAt (W : World) (s : Nat) (S : Sp) : Prop where
  lt : s < W.heap.size
  cell : ∀ j, j < 57 → W.cell? ⟨s, j, none⟩ = some (S.c j)
  fz : ∀ j, W.frozen? ⟨s, j, none⟩ = false
theorem SpAt.keep {W W' : World} {s : Nat} {S : Sp} (h : SpAt W s S) (hs : W.heap.size ≤ W'.heap.size) (hb : W'.heap[s]? = W.heap[s]?) : SpAt W' s S :=
  ⟨Nat.lt_of_lt_of_le h.lt hs, fun j hj => by rw [World.cell?_of_block (w := W) (by exact hb)]; exact h.cell j hj, fun j => by rw [World.frozen?_of_block (w := W) (by exact hb)]; exact h.fz j⟩
theorem SpAt.below {W W' : World} {s B : Nat} {S : Sp} (h : SpAt W s S) (hb : Below B W W') (hB : s < B) : SpAt W' s S := h.keep hb.size (hb.block s hB)
theorem SpAt.set {W : World} {s : Nat} {S S' : Sp} (h : SpAt W s S) (i : Nat) (hi : i < 57) (v : Value) (h1 : S'.c i = v) (h2 : ∀ j, j < 57 → j ≠ i → S'.c j = S.c j) : SpAt (W.setCell ⟨s, i, none⟩ v) s S' :=
  ⟨by simpa using h.lt, fun j hj => by
    by_cases e : j = i
    · subst e; rw [World.cell?_setCell_same _ _ _ (h.cell j hj), h1]
    · rw [World.cell?_setCell_other _ _ _ _ (by intro e'; injection e' with _ e2 _; exact e e2.symm), h2 j hj e]; exact h.cell j hj, fun j => by rw [World.frozen?_setCell]; exact h.fz j⟩
theorem SpAt.sets {W : World} {s : Nat} {S : Sp} (h : SpAt W s S) (ts : Int) (f : Nat → Nat) (m : Nat) : SpAt (W.setCells s 0 (bnd ts f m).toList) s { S with ts := ts, f := f, m := m } :=
  ⟨by rw [size_setCells]; exact h.lt, fun j hj => by
    by_cases e : j < 34
    · have := World.cell?_setCells_in s (bnd ts f m).toList 0 W (fun i hi => by rw [Array.length_toList, bnd_size] at hi; rw [Nat.zero_add, h.cell i (by omega)]; rfl) j (by rw [Array.length_toList, bnd_size]; exact e)
      rw [Nat.zero_add] at this
      rw [this]
      simp only [Array.getElem_toList, bnd, Array.getElem_ofFn, Sp.c]
      by_cases e0 : j = 0
      · simp [e0]
      · by_cases e3 : j = 33
        · simp [e3]
        · have e4 : j < 33 := by omega
          simp [e0, e3, e4]
    · rw [World.cell?_setCells_out _ _ _ _ _ (fun _ _ => by rw [Array.length_toList, bnd_size]; simp only; omega), h.cell j hj]
      simp only [Sp.c]
      have e0 : ¬ j = 0 := by omega
      have e3 : ¬ j < 33 := by omega
      have e4 : ¬ j = 33 := by omega
      simp [e0, e3, e4], fun j => by rw [World.frozen?_setCells]; exact h.fz j⟩
theorem own_pos {w : World} {B n : Nat} {v : Value} {xs : List Value} (h : w.ownsRow B 5 1 v n xs) (hn : 0 < n) : ∃ g cap, v = .slice (some ⟨g, 0, none⟩) n cap ∧ n ≤ cap ∧ B ≤ g := by
  obtain ⟨_, (⟨_, rfl⟩ | ⟨g, cap, cur, rfl, hb, _, hc, _⟩)⟩ := h
  · omega
  · exact ⟨g, cap, rfl, hc, hb⟩
theorem Ybaf.size32 : (Ybaf.prog.info? 32).map (·.size) = some 57 := by kernel_rfl
end Go.Proofs.YbulkcgfiFmt
