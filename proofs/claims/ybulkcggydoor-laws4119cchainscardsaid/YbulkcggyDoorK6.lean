import Derived.Test.YbulkcggyDoorK5
import Derived.Deep.CutBlock
namespace Go.Proofs.YbulkcggyDoor
open Go.RowKit
set_option linter.unusedVariables false
set_option linter.unusedSectionVars false
set_option linter.unusedSimpArgs false
set_option maxRecDepth 100000
/-- Nothing but the blocks of S, and new ones, has changed. -/
structure Fw (S : Nat → Prop) (w w' : World) : Prop where
  os : w'.os = w.os
  tape : w'.tape = w.tape
  output : w'.output = w.output
  size : w.heap.size ≤ w'.heap.size
  block : ∀ g, g < w.heap.size → ¬ S g → w'.heap[g]? = w.heap[g]?
theorem Fw.refl (S : Nat → Prop) (w : World) : Fw S w w := ⟨rfl, rfl, rfl, Nat.le_refl _, fun _ _ _ => rfl⟩
theorem Fw.trans {S : Nat → Prop} {u v w : World} (h : Fw S u v) (k : Fw S v w) : Fw S u w :=
  ⟨k.os.trans h.os, k.tape.trans h.tape, k.output.trans h.output, Nat.le_trans h.size k.size, fun g h1 h2 => (k.block g (Nat.lt_of_lt_of_le h1 h.size) h2).trans (h.block g h1 h2)⟩
theorem Fw.of_below {S : Nat → Prop} {w w' : World} (h : Below w.heap.size w w') : Fw S w w' := ⟨h.os, h.tape, h.output, h.size, fun g h1 _ => h.block g h1⟩
theorem Fw.setB {S : Nat → Prop} {w : World} (r : Nat) (o : Obj) (h : S r) : Fw S w (setB w r o) := ⟨rfl, rfl, rfl, by simp, fun g _ h2 => setB_other o (fun e => h2 (e ▸ h))⟩
theorem Fw.cell {S : Nat → Prop} {w w' : World} (h : Fw S w w') {a : Addr} (ha : a.block < w.heap.size) (hS : ¬ S a.block) : w'.cell? a = w.cell? a := World.cell?_of_block (h.block _ ha hS)
theorem Fw.frozen {S : Nat → Prop} {w w' : World} (h : Fw S w w') {a : Addr} (ha : a.block < w.heap.size) (hS : ¬ S a.block) : w'.frozen? a = w.frozen? a := World.frozen?_of_block (h.block _ ha hS)
theorem Fw.wide {S S' : Nat → Prop} {w w' : World} (h : Fw S w w') (hs : ∀ g, S g → S' g) : Fw S' w w' := ⟨h.os, h.tape, h.output, h.size, fun g h1 h2 => h.block g h1 (fun e => h2 (hs g e))⟩
/-- The row of quotes. -/
def QRow (w : World) (qb n : Nat) (its : Nat → It) : Prop := ∀ i, i < n → ∀ j v, (qc (its i) i)[j]? = some v → w.cell? ⟨qb, i * 14 + j, none⟩ = some v
structure Q14 (w : World) (b o : Nat) (t : It) (i : Nat) : Prop where
  c0 : w.cell? ⟨b, o, none⟩ = some (.int .u64 0)
  c1 : w.cell? ⟨b, o + 1, none⟩ = some (.int .i64 t.tm)
  c2 : w.cell? ⟨b, o + 2, none⟩ = some (.pointer none)
  c3 : w.cell? ⟨b, o + 3, none⟩ = some (.string ⟨#[66, 84, 67]⟩)
  c4 : w.cell? ⟨b, o + 4, none⟩ = some (.int .u64 0)
  c5 : w.cell? ⟨b, o + 5, none⟩ = some (.int .i64 (xp t.ee))
  c6 : w.cell? ⟨b, o + 6, none⟩ = some (.pointer none)
  c7 : w.cell? ⟨b, o + 7, none⟩ = some (.int .i64 (((t.kk : Int) + 1) * 10 ^ t.ss))
  c8 : w.cell? ⟨b, o + 8, none⟩ = some (.int .i64 t.ss)
  c9 : w.cell? ⟨b, o + 9, none⟩ = some (.int .i64 t.rr)
  c10 : w.cell? ⟨b, o + 10, none⟩ = some (.int .i64 t.bid)
  c11 : w.cell? ⟨b, o + 11, none⟩ = some (.int .i64 0)
  c12 : w.cell? ⟨b, o + 12, none⟩ = some (.int .i64 ((i : Int) + 1))
  c13 : w.cell? ⟨b, o + 13, none⟩ = some (.int .i64 0)
theorem QRow.at {w : World} {qb n : Nat} {its : Nat → It} (h : QRow w qb n its) (i : Nat) (hi : i < n) : Q14 w qb (i * 14) (its i) i :=
  ⟨h i hi 0 _ rfl, h i hi 1 _ rfl, h i hi 2 _ rfl, h i hi 3 _ rfl, h i hi 4 _ rfl, h i hi 5 _ rfl, h i hi 6 _ rfl, h i hi 7 _ rfl, h i hi 8 _ rfl, h i hi 9 _ rfl, h i hi 10 _ rfl, h i hi 11 _ rfl, h i hi 12 _ rfl, h i hi 13 _ rfl⟩
/-- What the first loop of chains keeps. -/
structure L1 (its : Nat → It) (wb : World) (m n i : Nat) (ks : List Key) (wr : World) : Prop where
  fw : Fw (fun g => g = m) wb wr
  map : MapAt wr m kval (bv its i) ks
  ok : LatOk its i ks
theorem L1.same {its : Nat → It} {wb wr : World} {m n i : Nat} {ks : List Key} (h : L1 its wb m n i ks wr) (hs : ∀ κ, best its (i + 1) κ = best its i κ) : L1 its wb m n (i + 1) ks wr :=
  ⟨h.fw, by rw [show bv its (i + 1) = bv its i by funext κ; unfold bv; rw [hs]]; exact h.map, h.ok.same hs⟩
theorem Q14.below {V w' : World} {q : Nat} {t : It} {i : Nat} (h : Q14 V q 0 t i) (hb : Below V.heap.size V w') : Q14 w' q 0 t i := by
  have l : q < V.heap.size := World.block_lt_of_cell? _ _ h.c0
  have c : ∀ o, w'.cell? ⟨q, o, none⟩ = V.cell? ⟨q, o, none⟩ := fun o => hb.cell (by exact l)
  exact ⟨by rw [c]; exact h.c0, by rw [c]; exact h.c1, by rw [c]; exact h.c2, by rw [c]; exact h.c3, by rw [c]; exact h.c4, by rw [c]; exact h.c5, by rw [c]; exact h.c6, by rw [c]; exact h.c7, by rw [c]; exact h.c8, by rw [c]; exact h.c9, by rw [c]; exact h.c10, by rw [c]; exact h.c11, by rw [c]; exact h.c12, by rw [c]; exact h.c13⟩
/-- A plain time in block B. -/
structure T3 (w : World) (B : Nat) (x : Int) : Prop where
  c0 : w.cell? ⟨B, 0, none⟩ = some (.int .u64 0)
  c1 : w.cell? ⟨B, 1, none⟩ = some (.int .i64 x)
  c2 : w.cell? ⟨B, 2, none⟩ = some (.pointer none)
theorem T3.below {V w' : World} {B : Nat} {x : Int} (h : T3 V B x) (hb : Below V.heap.size V w') : T3 w' B x := by
  have l : B < V.heap.size := World.block_lt_of_cell? _ _ h.c0
  have c : ∀ o, w'.cell? ⟨B, o, none⟩ = V.cell? ⟨B, o, none⟩ := fun o => hb.cell (by exact l)
  exact ⟨by rw [c]; exact h.c0, by rw [c]; exact h.c1, by rw [c]; exact h.c2⟩
/-- A key in block b. -/
structure K6 (w : World) (b : Nat) (κ : Key) : Prop where
  c0 : w.cell? ⟨b, 0, none⟩ = some (.int .u64 0)
  c1 : w.cell? ⟨b, 1, none⟩ = some (.int .i64 (xp κ.1))
  c2 : w.cell? ⟨b, 2, none⟩ = some (.pointer none)
  c3 : w.cell? ⟨b, 3, none⟩ = some (.int .i64 ((κ.2.1 : Int) + 1))
  c4 : w.cell? ⟨b, 4, none⟩ = some (.int .i64 0)
  c5 : w.cell? ⟨b, 5, none⟩ = some (.int .i64 κ.2.2)
theorem K6.below {V w' : World} {B : Nat} {κ : Key} (h : K6 V B κ) (hb : Below V.heap.size V w') : K6 w' B κ := by
  have l : B < V.heap.size := World.block_lt_of_cell? _ _ h.c0
  have c : ∀ o, w'.cell? ⟨B, o, none⟩ = V.cell? ⟨B, o, none⟩ := fun o => hb.cell (by exact l)
  exact ⟨by rw [c]; exact h.c0, by rw [c]; exact h.c1, by rw [c]; exact h.c2, by rw [c]; exact h.c3, by rw [c]; exact h.c4, by rw [c]; exact h.c5⟩
theorem K6.alloc (w : World) (κ : Key) (T : TypeId) : K6 (w.alloc (.cells #[.int .u64 0, .int .i64 (xp κ.1), .pointer none, .int .i64 ((κ.2.1 : Int) + 1), .int .i64 0, .int .i64 κ.2.2] T)) w.heap.size κ := by
  refine ⟨?_, ?_, ?_, ?_, ?_, ?_⟩
  all_goals simp
/-- What region 6 of chains reads of the quote. -/
theorem S7 {V w' : World} {q : Nat} {t : It} {i : Nat} (h : Q14 V q 0 t i) (hb : Below V.heap.size V w') :
    w'.cell? ⟨q, 4, none⟩ = some (.int .u64 0) ∧ w'.cell? ⟨q, 5, none⟩ = some (.int .i64 (xp t.ee)) ∧ w'.cell? ⟨q, 6, none⟩ = some (.pointer none) ∧ w'.cell? ⟨q, 7, none⟩ = some (.int .i64 (((t.kk : Int) + 1) * 10 ^ t.ss)) ∧ w'.cell? ⟨q, 8, none⟩ = some (.int .i64 t.ss) ∧ w'.cell? ⟨q, 9, none⟩ = some (.int .i64 t.rr) := by
  have h := h.below hb
  exact ⟨by simpa using h.c4, by simpa using h.c5, by simpa using h.c6, by simpa using h.c7, by simpa using h.c8, by simpa using h.c9⟩
theorem W2.below' {w w' : World} {x y : Int} (h : w' = W2 w x y) : Below w.heap.size w w' := by rw [h]; exact W2.below w x y
theorem It.kk_lt (t : It) : t.kk < 3 := by unfold It.kk; omega
theorem It.ss_lt (t : It) : t.ss < 3 := by unfold It.ss; omega
theorem It.rr_lt (t : It) : t.rr < 2 := by unfold It.rr; omega
theorem It.ee_lt (t : It) : t.ee < 5 := by unfold It.ee; omega
/-- What stands when the first loop of chains begins. -/
structure P3 (w : World) (stale : Int) (V : World) (A B m : Nat) : Prop where
  eq : V = ((w.alloc (.cells #[.int .i64 (stale * 60000000000), .int .i64 0, .int .i64 0] 33)).alloc (.cells #[.int .u64 0, .int .i64 3600000, .pointer none] 27)).alloc (.map #[] 0)
  eA : A = w.heap.size
  eB : B = w.heap.size + 1
  em : m = w.heap.size + 1 + 1
  a0 : V.cell? ⟨A, 0, none⟩ = some (.int .i64 (stale * 60000000000))
  b0 : V.cell? ⟨B, 0, none⟩ = some (.int .u64 0)
  b1 : V.cell? ⟨B, 1, none⟩ = some (.int .i64 3600000)
  b2 : V.cell? ⟨B, 2, none⟩ = some (.pointer none)
  map : V.heap[m]? = some (.map #[] 0)
  bel : Below w.heap.size w V
theorem P3.mk' (w : World) (stale : Int) : ∃ V A B m, P3 w stale V A B m := by
  refine ⟨_, _, _, _, rfl, rfl, rfl, rfl, ?_, ?_, ?_, ?_, ?_, ?_⟩
  · rw [World.cell?_of_block (w := (w.alloc (.cells #[.int .i64 (stale * 60000000000), .int .i64 0, .int .i64 0] 33)).alloc (.cells #[.int .u64 0, .int .i64 3600000, .pointer none] 27)) (heap_alloc_old _ _ (by simp +arith))]
    simp +arith [World.cell?_alloc_past, World.cell?_alloc_at]
  · rw [World.cell?_of_block (w := (w.alloc (.cells #[.int .i64 (stale * 60000000000), .int .i64 0, .int .i64 0] 33)).alloc (.cells #[.int .u64 0, .int .i64 3600000, .pointer none] 27)) (heap_alloc_old _ _ (by simp +arith))]
    simp +arith [World.cell?_alloc_past, World.cell?_alloc_at]
  · rw [World.cell?_of_block (w := (w.alloc (.cells #[.int .i64 (stale * 60000000000), .int .i64 0, .int .i64 0] 33)).alloc (.cells #[.int .u64 0, .int .i64 3600000, .pointer none] 27)) (heap_alloc_old _ _ (by simp +arith))]
    simp +arith [World.cell?_alloc_past, World.cell?_alloc_at]
  · rw [World.cell?_of_block (w := (w.alloc (.cells #[.int .i64 (stale * 60000000000), .int .i64 0, .int .i64 0] 33)).alloc (.cells #[.int .u64 0, .int .i64 3600000, .pointer none] 27)) (heap_alloc_old _ _ (by simp +arith))]
    simp +arith [World.cell?_alloc_past, World.cell?_alloc_at]
  · have := heap_alloc_new ((w.alloc (.cells #[.int .i64 (stale * 60000000000), .int .i64 0, .int .i64 0] 33)).alloc (.cells #[.int .u64 0, .int .i64 3600000, .pointer none] 27)) (.map #[] 0)
    simpa using this
  · have h1 : Below w.heap.size w ((w.alloc (.cells #[.int .i64 (stale * 60000000000), .int .i64 0, .int .i64 0] 33)).alloc (.cells #[.int .u64 0, .int .i64 3600000, .pointer none] 27)) := ((Below.refl _ _).alloc (Nat.le_refl _) _).alloc (by simp) _
    refine ⟨h1.os, h1.tape, h1.output, ?_, fun g hg => ?_⟩
    · simp +arith
    · rw [heap_alloc_old _ _ (by simp; omega)]
      exact h1.block g hg
/-- A quote laid anew. -/
theorem Q14.alloc (w : World) (t : It) (i : Nat) (T : TypeId) : ∃ V, V = w.alloc (.cells #[.int .u64 0, .int .i64 t.tm, .pointer none, .string ⟨#[66, 84, 67]⟩, .int .u64 0, .int .i64 (xp t.ee), .pointer none, .int .i64 (((t.kk : Int) + 1) * 10 ^ t.ss), .int .i64 t.ss, .int .i64 t.rr, .int .i64 t.bid, .int .i64 0, .int .i64 ((i : Int) + 1), .int .i64 0] T) ∧ Q14 V w.heap.size 0 t i ∧ Below w.heap.size w V := by
  refine ⟨_, rfl, ⟨?_, ?_, ?_, ?_, ?_, ?_, ?_, ?_, ?_, ?_, ?_, ?_, ?_, ?_⟩, (Below.refl _ _).alloc (Nat.le_refl _) _⟩
  all_goals simp
theorem zero42 (w : World) : (zeroValue 42).run Ybad.prog w = .ok (.agg #[.int .u64 0, .int .i64 0, .pointer none, .string ⟨#[]⟩, .int .u64 0, .int .i64 0, .pointer none, .int .i64 0, .int .i64 0, .int .i64 0, .int .i64 0, .int .i64 0, .int .i64 0, .int .i64 0]) w := by kernel_rfl
theorem L1.below {its : Nat → It} {wb wr w' : World} {m n i : Nat} {ks : List Key} (h : L1 its wb m n i ks wr) (hm : m < wb.heap.size) (hb : Below wr.heap.size wr w') : L1 its wb m n i ks w' :=
  ⟨h.fw.trans (Fw.of_below hb), by unfold MapAt; rw [hb.block m (by have := h.fw.size; omega)]; exact h.map, h.ok⟩
/-- The store of the round's quote. -/
theorem L1.store {its : Nat → It} {wb W : World} {m n i : Nat} {ks : List Key} (h : L1 its wb m n i ks W) (hm : m < wb.heap.size) (he : (its i).elig = true) (h2 : ∀ j, best its i (its i).key = some j → (its j).qt ≤ (its i).qt) :
    ∃ o ks', (Instr.mapUpdate 52 (.map (some m)) (.agg #[.int .u64 0, .int .i64 (xp (its i).ee), .pointer none, .int .i64 (((its i).kk : Int) + 1), .int .i64 0, .int .i64 (its i).rr]) (.agg #[.int .u64 0, .int .i64 (its i).tm, .pointer none, .string ⟨#[66, 84, 67]⟩, .int .u64 0, .int .i64 (xp (its i).ee), .pointer none, .int .i64 ((((its i).kk : Int) + 1) * 10 ^ (its i).ss), .int .i64 (its i).ss, .int .i64 (its i).rr, .int .i64 (its i).bid, .int .i64 0, .int .i64 ((i : Int) + 1), .int .i64 0])).run Ybad.prog W = .ok () (setB W m o) ∧ L1 its wb m n (i + 1) ks' (setB W m o) := by
  have hmW : m < W.heap.size := by have := h.fw.size; omega
  by_cases hk : (its i).key ∈ ks
  · refine ⟨_, ks, update_old Ybad.underlying52 keys57 (bv its i) (its i).key (qv (its i) i) W m ks h.map hk h.ok.1, h.fw.trans (Fw.setB (S := fun g => g = m) m _ rfl), ?_, h.ok.old he hk h2⟩
    unfold MapAt
    rw [setB_at _ hmW, bv_upd he h2]
  · refine ⟨_, ks ++ [(its i).key], update_new Ybad.underlying52 keys57 (bv its i) (its i).key (qv (its i) i) W m ks h.map hk, h.fw.trans (Fw.setB (S := fun g => g = m) m _ rfl), ?_, h.ok.new he hk⟩
    unfold MapAt
    rw [setB_at _ hmW, bv_upd he h2]
theorem Q14.setB {V : World} {q m : Nat} {t : It} {i : Nat} {o : Obj} (h : Q14 V q 0 t i) (hne : q ≠ m) : Q14 (setB V m o) q 0 t i := by
  have c : ∀ j, (YbulkcggyDoor.setB V m o).cell? ⟨q, j, none⟩ = V.cell? ⟨q, j, none⟩ := fun j => World.cell?_of_block (setB_other o hne)
  exact ⟨by rw [c]; exact h.c0, by rw [c]; exact h.c1, by rw [c]; exact h.c2, by rw [c]; exact h.c3, by rw [c]; exact h.c4, by rw [c]; exact h.c5, by rw [c]; exact h.c6, by rw [c]; exact h.c7, by rw [c]; exact h.c8, by rw [c]; exact h.c9, by rw [c]; exact h.c10, by rw [c]; exact h.c11, by rw [c]; exact h.c12, by rw [c]; exact h.c13⟩
end Go.Proofs.YbulkcggyDoor
