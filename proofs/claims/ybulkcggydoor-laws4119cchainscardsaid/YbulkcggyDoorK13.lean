import Derived.Test.YbulkcggyDoorK14
namespace Go.Proofs.YbulkcggyDoor
open Go.RowKit
set_option linter.unusedVariables false
set_option linter.unusedSectionVars false
set_option linter.unusedSimpArgs false
set_option maxRecDepth 100000
/-- An item as it lies. -/
structure I6 (w : World) (b o : Nat) (t : It) : Prop where
  c0 : w.cell? ⟨b, o, none⟩ = some (.int .i8 t.qt)
  c1 : w.cell? ⟨b, o + 1, none⟩ = some (.int .u8 t.e)
  c2 : w.cell? ⟨b, o + 2, none⟩ = some (.int .u8 t.k)
  c3 : w.cell? ⟨b, o + 3, none⟩ = some (.int .u8 t.s)
  c4 : w.cell? ⟨b, o + 4, none⟩ = some (.int .u8 t.r)
  c5 : w.cell? ⟨b, o + 5, none⟩ = some (.int .i8 t.bid)
theorem I6.same {V w' : World} {q o : Nat} {t : It} (h : I6 V q o t) (hb : w'.heap[q]? = V.heap[q]?) : I6 w' q o t := by
  have c : ∀ o, w'.cell? ⟨q, o, none⟩ = V.cell? ⟨q, o, none⟩ := fun o => World.cell?_of_block hb
  exact ⟨by rw [c]; exact h.c0, by rw [c]; exact h.c1, by rw [c]; exact h.c2, by rw [c]; exact h.c3, by rw [c]; exact h.c4, by rw [c]; exact h.c5⟩
theorem I6.alloc (w : World) (t : It) (T : TypeId) : ∃ V, V = w.alloc (.cells #[.int .i8 t.qt, .int .u8 t.e, .int .u8 t.k, .int .u8 t.s, .int .u8 t.r, .int .i8 t.bid] T) ∧ I6 V w.heap.size 0 t ∧ Below w.heap.size w V := by
  refine ⟨_, rfl, ⟨?_, ?_, ?_, ?_, ?_, ?_⟩, (Below.refl _ _).alloc (Nat.le_refl _) _⟩
  all_goals simp
def made (n : Nat) : Array Value := madeCells (Value.agg #[.int .u64 0, .int .i64 0, .pointer none, .string ⟨#[]⟩, .int .u64 0, .int .i64 0, .pointer none, .int .i64 0, .int .i64 0, .int .i64 0, .int .i64 0, .int .i64 0, .int .i64 0, .int .i64 0]).cells (n * 14)
theorem mk34 (w : World) (n : Nat) (h : n ≤ 1024) : (Instr.makeSlice 34 (.int .i64 n) (.int .i64 n)).run Ybad.prog w = .ok (.slice (some ⟨w.heap.size, 0, none⟩) n n) (w.alloc (.cells (made n) 42)) := by
  obtain ⟨i0, hi, hz0, hz1, hz2⟩ := info_parts info42
  have := run_make w 34 42 i0 _ Ybad.underlying34 hi hz0 .i64 .i64 n n (by omega) (Int.le_refl _) (by rw [hz2]; omega) (by omega)
  rw [this]
  simp [made, hz1]
theorem made_size (n : Nat) : (made n).size = n * 14 := by simp [made, madeCells]
/-- What stands when the law begins to lay the quotes. -/
structure P8 (w : World) (n : Nat) (stale : Int) (V : World) (T M qb : Nat) : Prop where
  eq : V = ((((w.alloc (.cells #[.int .u64 0, .int .i64 3600000, .pointer none] 27)).alloc (.cells #[.int .u64 0, .int .i64 3600000, .pointer none] 27)).alloc (.cells #[.int .u64 0, .int .i64 3600000, .pointer none] 27)).alloc (.cells #[.int .i64 (stale * 60000000000), .int .i64 0, .int .i64 0] 33)).alloc (.cells (made n) 42)
  eT : T = w.heap.size + 1 + 1
  eM : M = w.heap.size + 1 + 1 + 1
  eq' : qb = w.heap.size + 1 + 1 + 1 + 1
  t : T3 V T 3600000
  m0 : V.cell? ⟨M, 0, none⟩ = some (.int .i64 (stale * 60000000000))
  m1 : V.cell? ⟨M, 1, none⟩ = some (.int .i64 0)
  m2 : V.cell? ⟨M, 2, none⟩ = some (.int .i64 0)
  row : V.heap[qb]? = some (.cells (made n) 42)
  bel : Below w.heap.size w V
  size : V.heap.size = w.heap.size + 5
theorem P8.mk' (w : World) (n : Nat) (stale : Int) : ∃ V T M qb, P8 w n stale V T M qb := by
  refine ⟨_, _, _, _, rfl, rfl, rfl, rfl, ⟨?_, ?_, ?_⟩, ?_, ?_, ?_, ?_, ?_, ?_⟩
  case refine_7 =>
    have := heap_alloc_new ((((w.alloc (.cells #[.int .u64 0, .int .i64 3600000, .pointer none] 27)).alloc (.cells #[.int .u64 0, .int .i64 3600000, .pointer none] 27)).alloc (.cells #[.int .u64 0, .int .i64 3600000, .pointer none] 27)).alloc (.cells #[.int .i64 (stale * 60000000000), .int .i64 0, .int .i64 0] 33)) (.cells (made n) 42)
    simpa using this
  case refine_8 => exact ((((((Below.refl _ _).alloc (Nat.le_refl _) _).alloc (by simp) _).alloc (by simp; omega) _).alloc (by simp; omega) _)).alloc (by simp; omega) _
  case refine_9 => simp
  all_goals simp +arith [World.cell?_alloc_past, World.cell?_alloc_at]
/-- The quotes that are laid already. -/
structure QW (V : World) (qb n i : Nat) (its : Nat → It) (wr : World) : Prop where
  fw : Fw (fun g => g = qb) V wr
  row : QRow wr qb i its
  ex : ∀ j, j < n * 14 → ∃ v, wr.cell? ⟨qb, j, none⟩ = some v
  fz : ∀ j, wr.frozen? ⟨qb, j, none⟩ = false
theorem QW.start {w V : World} {n : Nat} {stale : Int} {T M qb : Nat} (its : Nat → It) (h : P8 w n stale V T M qb) : QW V qb n 0 its V := by
  refine ⟨Fw.refl _ _, fun i hi => by omega, fun j hj => ?_, fun j => ?_⟩
  · have hl : j < (made n).size := by rw [made_size]; exact hj
    exact ⟨(made n)[j], by simp [World.cell?, h.row, hl]⟩
  · simp [World.frozen?, h.row]
/-- One quote more. -/
theorem QW.put {V W0 W1 : World} {qb n i : Nat} {its : Nat → It} (h : QW V qb n i its W0) (hi : i < n) (hb : Below W0.heap.size W0 W1) (hq : qb < W0.heap.size) : QW V qb n (i + 1) its (putL W1 qb (i * 14) (qc (its i) i)) := by
  have hc1 : ∀ j, W1.cell? ⟨qb, j, none⟩ = W0.cell? ⟨qb, j, none⟩ := fun j => hb.cell (by exact hq)
  have hex : ∀ j, j < (qc (its i) i).length → ∃ v, W1.cell? ⟨qb, i * 14 + j, none⟩ = some v := fun j hj => by
    rw [hc1]; rw [qc_len] at hj; exact h.ex _ (by omega)
  refine ⟨?_, fun a ha j v hv => ?_, fun j hj => ?_, fun j => ?_⟩
  · have f1 : Fw (fun g => g = qb) W0 W1 := Fw.of_below hb
    have ho := put_os qb (qc (its i) i) W1 (i * 14)
    exact (h.fw.trans f1).trans ⟨ho.1, ho.2.1, ho.2.2, by rw [put_size]; exact Nat.le_refl _, fun g _ hg => put_other qb _ _ _ g hg⟩
  · have hj : j < 14 := by have := (List.getElem?_eq_some_iff.1 hv).1; rwa [qc_len] at this
    by_cases he : a = i
    · subst he
      exact put_in qb _ _ _ hex j v hv
    · rw [put_out qb _ _ _ _ (by rw [qc_len]; omega), hc1]
      exact h.row a (by omega) j v hv
  · by_cases hj2 : i * 14 ≤ j ∧ j < i * 14 + 14
    · obtain ⟨d, rfl⟩ : ∃ d, j = i * 14 + d := ⟨j - i * 14, by omega⟩
      have hd : d < (qc (its i) i).length := by rw [qc_len]; omega
      exact ⟨_, put_in qb _ _ _ hex d _ (List.getElem?_eq_getElem hd)⟩
    · rw [put_out qb _ _ _ _ (by rw [qc_len]; omega), hc1]
      exact h.ex j hj
  · rw [put_frozen, hb.frozen (by exact hq)]
    exact h.fz j
theorem It.arith (t : It) (h : t.ok) : t.e.tmod 5 = (t.ee : Int) ∧ t.k.tmod 3 = (t.kk : Int) ∧ t.s.tmod 3 = (t.ss : Int) ∧ t.r.tmod 2 = (t.rr : Int) := by
  have h1 := h.e0; have h2 := h.k0; have h3 := h.s0; have h4 := h.r0
  refine ⟨?_, ?_, ?_, ?_⟩
  · rw [Int.tmod_eq_emod_of_nonneg h1]; unfold It.ee; omega
  · rw [Int.tmod_eq_emod_of_nonneg h2]; unfold It.kk; omega
  · rw [Int.tmod_eq_emod_of_nonneg h3]; unfold It.ss; omega
  · rw [Int.tmod_eq_emod_of_nonneg h4]; unfold It.rr; omega
theorem wrap_u8 (x : Int) (h0 : 0 ≤ x) (h1 : x ≤ 255) : IntKind.u8.wrap x = x := by
  simp [IntKind.wrap, IntKind.signed, IntKind.bits]; omega
/-- Two blocks stand as they stood. -/
structure KT (T it : Nat) (V w' : World) : Prop where
  a : w'.heap[T]? = V.heap[T]?
  b : w'.heap[it]? = V.heap[it]?
  le : V.heap.size ≤ w'.heap.size
theorem KT.refl (T it : Nat) (V : World) : KT T it V V := ⟨rfl, rfl, Nat.le_refl _⟩
theorem KT.drew {T it : Nat} {V w' : World} (h : KT T it V w') : KT T it V w'.drew := ⟨h.a, h.b, h.le⟩
theorem KT.alloc {T it : Nat} {V w' : World} (h : KT T it V w') (h1 : T < V.heap.size) (h2 : it < V.heap.size) (o : Obj) : KT T it V (w'.alloc o) :=
  ⟨by rw [heap_alloc_old _ _ (by have := h.le; omega)]; exact h.a, by rw [heap_alloc_old _ _ (by have := h.le; omega)]; exact h.b, by have := h.le; simp; omega⟩
theorem KT.set {T it : Nat} {V w' : World} (h : KT T it V w') {q o : Nat} (h1 : T ≠ q) (h2 : it ≠ q) (v : Value) : KT T it V (w'.setCell ⟨q, o, none⟩ v) :=
  ⟨by rw [Below.heap_setCell _ _ _ _ h1]; exact h.a, by rw [Below.heap_setCell _ _ _ _ h2]; exact h.b, by simp; exact h.le⟩
theorem S13k {V w' : World} {T it : Nat} {t : It} (h : T3 V T 3600000) (h' : I6 V it 0 t) (hb : KT T it V w') :
    w'.cell? ⟨T, 0, none⟩ = some (.int .u64 0) ∧ w'.cell? ⟨T, 1, none⟩ = some (.int .i64 3600000) ∧ w'.cell? ⟨T, 2, none⟩ = some (.pointer none) ∧ w'.cell? ⟨it, 0, none⟩ = some (.int .i8 t.qt) ∧ w'.cell? ⟨it, 4, none⟩ = some (.int .u8 t.r) ∧ w'.cell? ⟨it, 5, none⟩ = some (.int .i8 t.bid) := by
  have c : ∀ o, w'.cell? ⟨T, o, none⟩ = V.cell? ⟨T, o, none⟩ := fun o => World.cell?_of_block hb.a
  have h' := h'.same hb.b
  exact ⟨by rw [c]; exact h.c0, by rw [c]; exact h.c1, by rw [c]; exact h.c2, h'.c0, by simpa using h'.c4, by simpa using h'.c5⟩
/-- What region 18 of the law reads. -/
theorem S13 {V w' : World} {T it : Nat} {t : It} (h : T3 V T 3600000) (h' : I6 V it 0 t) (hb : Below V.heap.size V w') :
    w'.cell? ⟨T, 0, none⟩ = some (.int .u64 0) ∧ w'.cell? ⟨T, 1, none⟩ = some (.int .i64 3600000) ∧ w'.cell? ⟨T, 2, none⟩ = some (.pointer none) ∧ w'.cell? ⟨it, 0, none⟩ = some (.int .i8 t.qt) ∧ w'.cell? ⟨it, 4, none⟩ = some (.int .u8 t.r) ∧ w'.cell? ⟨it, 5, none⟩ = some (.int .i8 t.bid) := by
  have l : it < V.heap.size := World.block_lt_of_cell? _ _ h'.c0
  have h := h.below hb
  have h' := h'.same (hb.block it l)
  exact ⟨h.c0, h.c1, h.c2, h'.c0, by simpa using h'.c4, by simpa using h'.c5⟩
end Go.Proofs.YbulkcggyDoor
