import Derived.Test.YbulkcgegA2
import Derived.Deep.Light
namespace Go.Proofs.Ybulkcgeg
open Go.RowKit
theorem Yba.info67 : (Yba.prog.info? 67).map (fun i => (i.zero, i.size, i.bytes)) = some (some (.slice none 0 0), 1, 24) := by kernel_rfl
def zeroChunk : Array Value := madeCells (Value.agg #[.string ⟨#[]⟩, .int .i64 0, .int .u64 0, .slice none 0 0, .slice none 0 0]).cells 5120
def zeroTab (n : Nat) : Array Value := madeCells (Value.slice none 0 0).cells n
theorem mk67 (w : World) : (Instr.makeSlice 67 (.int .i64 1024) (.int .i64 1024)).run Yba.prog w = .ok (.slice (some ⟨w.heap.size, 0, none⟩) 1024 1024) (w.alloc (.cells zeroChunk 55)) := by
  obtain ⟨i0, hi, hz0, hz1, hz2⟩ := info_parts Yba.info55
  have := run_make w 67 55 i0 _ Yba.underlying67 hi hz0 .i64 .i64 1024 1024 (by omega) (Int.le_refl _) (by rw [hz2]; omega) (by omega)
  rw [hz1] at this; exact this
theorem mk24 (w : World) (n : Nat) (h : n ≤ 4) : (Instr.makeSlice 24 (.int .i64 n) (.int .i64 n)).run Yba.prog w = .ok (.slice (some ⟨w.heap.size, 0, none⟩) n n) (w.alloc (.cells (zeroTab n) 67)) := by
  obtain ⟨i0, hi, hz0, hz1, hz2⟩ := info_parts Yba.info67
  have := run_make w 24 67 i0 _ Yba.underlying24 hi hz0 .i64 .i64 n n (by omega) (Int.le_refl _) (by rw [hz2]; omega) (by omega)
  rw [hz1, Int.toNat_natCast, Nat.mul_one] at this; exact this

def Wt.zero : Wt := ⟨⟨#[]⟩, 0, 0, none, 0, none, 0⟩
structure WtAt (w : World) (b o : Nat) (t : Wt) : Prop where
  c0 : w.cell? ⟨b, o, none⟩ = some (.string t.id)
  c1 : w.cell? ⟨b, o + 1, none⟩ = some (.int .i64 t.due)
  c2 : w.cell? ⟨b, o + 2, none⟩ = some (.int .u64 t.seq)
  c3 : w.cell? ⟨b, o + 3, none⟩ = some (.slice t.pa t.pn t.pn)
  c4 : w.cell? ⟨b, o + 4, none⟩ = some (.slice t.ma t.mn t.mn)
structure HeapAt (w : World) (T K nc : Nat) (f : Nat → Wt) : Prop where
  tab : ∀ c, c < nc → w.cell? ⟨T, c, none⟩ = some (.slice (some ⟨K + c, 0, none⟩) 1024 1024)
  thaw : ∀ c o, c < nc → w.frozen? ⟨K + c, o, none⟩ = false
  at_ : ∀ i, i < nc * 1024 → WtAt w (K + i / 1024) (i % 1024 * 5) (f i)
structure ItemsAt (w : World) (b off len : Nat) (its : Nat → Item) : Prop where
  c0 : ∀ i, i < len → w.cell? ⟨b, off + i * 4, none⟩ = some (.int .i64 (its i).due)
  c1 : ∀ i, i < len → w.cell? ⟨b, off + i * 4 + 1, none⟩ = some (.int .u64 (its i).seq)
  c2 : ∀ i, i < len → w.cell? ⟨b, off + i * 4 + 2, none⟩ = some (.int .u8 (its i).mem)
  c3 : ∀ i, i < len → w.cell? ⟨b, off + i * 4 + 3, none⟩ = some (.int .u8 (its i).parts)
  ok : ∀ i, i < len → (its i).ok
  lt : 0 < len → b < w.heap.size

theorem heap_new (w : World) (o : Obj) : (w.alloc o).heap[w.heap.size]? = some o := by
  show (w.heap.push o)[w.heap.size]? = _
  simp
theorem hide {p : Prop} (h : p) : Hid p := h
theorem bcell {W w1 : World} (hb : Below W.heap.size W w1) : (∀ b o, b < W.heap.size → w1.cell? ⟨b, o, none⟩ = W.cell? ⟨b, o, none⟩) ∧ (∀ b o, b < W.heap.size → w1.frozen? ⟨b, o, none⟩ = W.frozen? ⟨b, o, none⟩) :=
  ⟨fun b o h => hb.cell (p := ⟨b, o, none⟩) h, fun b o h => hb.frozen (p := ⟨b, o, none⟩) h⟩
theorem bcellD {W w1 : World} (hb : Below W.drew.heap.size W.drew w1) : (∀ b o, b < W.heap.size → w1.cell? ⟨b, o, none⟩ = W.cell? ⟨b, o, none⟩) ∧ (∀ b o, b < W.heap.size → w1.frozen? ⟨b, o, none⟩ = W.frozen? ⟨b, o, none⟩) :=
  ⟨fun b o h => hb.cell (p := ⟨b, o, none⟩) h, fun b o h => hb.frozen (p := ⟨b, o, none⟩) h⟩
structure Tab (w wr : World) (nc k : Nat) : Prop where
  sz : wr.heap.size = w.heap.size + 2 + k
  tab : ∀ c, c < k → wr.cell? ⟨w.heap.size + 1, c, none⟩ = some (.slice (some ⟨w.heap.size + 2 + c, 0, none⟩) 1024 1024)
  ex : ∀ c, c < nc → ∃ v, wr.cell? ⟨w.heap.size + 1, c, none⟩ = some v
  fz : ∀ o, wr.frozen? ⟨w.heap.size + 1, o, none⟩ = false
  ch : ∀ c, c < k → wr.heap[w.heap.size + 2 + c]? = some (.cells zeroChunk 55)
  res : wr.heap[w.heap.size]? = some (Obj.cells #[Value.slice none 0 0, Value.int IntKind.i64 0] 26)
  bel : Below w.heap.size w wr
theorem zeroTab_get (n c : Nat) (h : c < n) : (zeroTab n)[c]? = some (.slice none 0 0) := by
  simp [zeroTab, madeCells, Value.cells, Nat.mod_one, h]
theorem Tab.start (w : World) (nc : Nat) : Tab w ((w.alloc (Obj.cells #[Value.slice none 0 0, Value.int IntKind.i64 0] 26)).alloc (.cells (zeroTab nc) 67)) nc 0 := by
  refine ⟨by simp, fun c h => absurd h (by omega), fun c h => ⟨.slice none 0 0, ?_⟩, fun o => ?_, fun c h => absurd h (by omega), ?_, ?_⟩
  · rw [World.cell?_alloc_at _ _ _ _ (by simp)]; exact zeroTab_get _ _ h
  · rw [World.frozen?_alloc_at _ _ _ _ (by simp)]
  · rw [Below.heap_alloc _ _ _ (by simp)]; exact heap_new _ _
  · repeat (first | exact Below.refl _ _ | refine Below.alloc ?_ (by simp +arith) _)
theorem Tab.step {w wr : World} {nc k : Nat} (h : Tab w wr nc k) (hk : k < nc) : Tab w ((wr.alloc (Obj.cells zeroChunk 55)).setCell ⟨w.heap.size + 1, k, none⟩ (.slice (some ⟨w.heap.size + 2 + k, 0, none⟩) 1024 1024)) nc (k + 1) := by
  obtain ⟨v, hv⟩ := h.ex k hk
  have hs := h.sz
  have hv' : (wr.alloc (Obj.cells zeroChunk 55)).cell? ⟨w.heap.size + 1, k, none⟩ = some v := by rw [World.cell?_alloc_past _ _ _ (by omega)]; exact hv
  refine ⟨by simp; omega, fun c hc => ?_, fun c hc => ?_, fun o => ?_, fun c hc => ?_, ?_, ?_⟩
  · by_cases e : c = k
    · subst e; exact World.cell?_setCell_same _ _ _ hv'
    · rw [World.cell?_setCell_other _ _ _ _ (by intro h'; injection h' with h1 h2 h3; exact e h2.symm), World.cell?_alloc_past _ _ _ (by omega)]; exact h.tab c (by omega)
  · by_cases e : c = k
    · subst e; exact ⟨_, World.cell?_setCell_same _ _ _ hv'⟩
    · rw [World.cell?_setCell_other _ _ _ _ (by intro h'; injection h' with h1 h2 h3; exact e h2.symm), World.cell?_alloc_past _ _ _ (by omega)]; exact h.ex c hc
  · rw [World.frozen?_setCell, World.frozen?_alloc_past _ _ _ (by omega)]; exact h.fz o
  · rw [Below.heap_setCell _ _ _ _ (by simp; omega)]
    by_cases e : c = k
    · subst e; rw [← hs]; exact heap_new _ _
    · rw [Below.heap_alloc _ _ _ (by omega)]; exact h.ch c (by omega)
  · rw [Below.heap_setCell _ _ _ _ (by simp), Below.heap_alloc _ _ _ (by omega)]; exact h.res
  · exact (h.bel.alloc (by omega) _).setCell (by simp) _
def Heap2 (w wr : World) (nc k : Nat) (its : Nat → Item) : Prop := (∃ f, HeapAt wr (w.heap.size + 1) (w.heap.size + 2) nc f ∧ (∀ i, i < k → (f i).isOf i (its i))) ∧ w.heap.size + 2 + nc ≤ wr.heap.size ∧
  wr.cell? ⟨w.heap.size, 0, none⟩ = some (Value.slice none 0 0) ∧ wr.cell? ⟨w.heap.size, 1, none⟩ = some (Value.int .i64 0) ∧ (∀ o, wr.frozen? ⟨w.heap.size, o, none⟩ = false) ∧ Below w.heap.size w wr
theorem zeroChunk_get (o : Nat) (h : o < 5120) : zeroChunk[o]? = some (#[Value.string ⟨#[]⟩, .int .i64 0, .int .u64 0, .slice none 0 0, .slice none 0 0][o % 5]!) := by
  simp [zeroChunk, madeCells, Value.cells, h]
theorem cell_of_block {w : World} {b o : Nat} {c : Array Value} {t : TypeId} (h : w.heap[b]? = some (.cells c t)) : w.cell? ⟨b, o, none⟩ = c[o]? := by
  simp [World.cell?, h]
theorem frozen_of_block {w : World} {b o : Nat} {c : Array Value} {t : TypeId} (h : w.heap[b]? = some (.cells c t)) : w.frozen? ⟨b, o, none⟩ = false := by
  simp [World.frozen?, h]
theorem Tab.done {w wr : World} {nc : Nat} {its : Nat → Item} (h : Tab w wr nc nc) : Heap2 w wr nc 0 its := by
  refine ⟨⟨fun _ => Wt.zero, ⟨fun c hc => h.tab c hc, fun c o hc => frozen_of_block (h.ch c hc), fun i hi => ?_⟩, fun i hi => absurd hi (by omega)⟩, by have := h.sz; omega, ?_, ?_, fun o => frozen_of_block h.res, h.bel⟩
  · have hb := h.ch (i / 1024) (by omega)
    have hz : ∀ j, j < 5 → wr.cell? ⟨w.heap.size + 2 + i / 1024, i % 1024 * 5 + j, none⟩ = some (#[Value.string ⟨#[]⟩, .int .i64 0, .int .u64 0, .slice none 0 0, .slice none 0 0][j]!) := by
      intro j hj
      rw [cell_of_block hb, zeroChunk_get _ (by omega), show (i % 1024 * 5 + j) % 5 = j by omega]
    exact ⟨hz 0 (by omega), hz 1 (by omega), hz 2 (by omega), hz 3 (by omega), hz 4 (by omega)⟩
  · rw [cell_of_block h.res]; rfl
  · rw [cell_of_block h.res]; rfl

theorem HeapAt.below {w w' : World} {T K nc : Nat} {f : Nat → Wt} (h : HeapAt w T K nc f) (hb : Below w.heap.size w w') : HeapAt w' T K nc f := by
  have lt : ∀ {b o : Nat} {v : Value}, w.cell? ⟨b, o, none⟩ = some v → w'.cell? ⟨b, o, none⟩ = some v := fun {b o v} hc => by
    rw [hb.cell (World.block_lt_of_cell? _ _ hc)]; exact hc
  refine ⟨fun c hc => lt (h.tab c hc), fun c o hc => ?_, fun i hi => ?_⟩
  · have h0 := (h.at_ (c * 1024) (by omega)).c0
    rw [show c * 1024 / 1024 = c by omega] at h0
    have := World.block_lt_of_cell? _ _ h0
    rw [hb.frozen (p := ⟨K + c, o, none⟩) this]; exact h.thaw c o hc
  · have := h.at_ i hi
    exact ⟨lt this.c0, lt this.c1, lt this.c2, lt this.c3, lt this.c4⟩
/-- A waiter stored at place k. -/
def putWt (w : World) (b o : Nat) (t : Wt) : World :=
  ((((w.setCell ⟨b, o, none⟩ (.string t.id)).setCell ⟨b, o + 1, none⟩ (.int .i64 t.due)).setCell ⟨b, o + 2, none⟩ (.int .u64 t.seq)).setCell ⟨b, o + 3, none⟩ (.slice t.pa t.pn t.pn)).setCell ⟨b, o + 4, none⟩ (.slice t.ma t.mn t.mn)
theorem putWt_other (w : World) (b o : Nat) (t : Wt) (b' o' : Nat) (h : b' ≠ b ∨ o' < o ∨ o + 5 ≤ o') : (putWt w b o t).cell? ⟨b', o', none⟩ = w.cell? ⟨b', o', none⟩ := by
  unfold putWt
  rw [World.cell?_setCell_other, World.cell?_setCell_other, World.cell?_setCell_other, World.cell?_setCell_other, World.cell?_setCell_other]
  all_goals (intro h'; injection h' with h1 h2 h3; omega)
theorem ne_off {b o o' : Nat} (h : o ≠ o') : (⟨b, o, none⟩ : Addr) ≠ ⟨b, o', none⟩ := by
  intro h'; injection h' with h1 h2 h3; exact h h2
theorem putWt_same (w : World) (b o : Nat) (t u : Wt) (h : WtAt w b o u) : WtAt (putWt w b o t) b o t := by
  unfold putWt
  refine ⟨?_, ?_, ?_, ?_, ?_⟩
  · rw [World.cell?_setCell_other _ _ _ _ (ne_off (by omega)), World.cell?_setCell_other _ _ _ _ (ne_off (by omega)), World.cell?_setCell_other _ _ _ _ (ne_off (by omega)), World.cell?_setCell_other _ _ _ _ (ne_off (by omega))]
    exact World.cell?_setCell_same _ _ _ h.c0
  · rw [World.cell?_setCell_other _ _ _ _ (ne_off (by omega)), World.cell?_setCell_other _ _ _ _ (ne_off (by omega)), World.cell?_setCell_other _ _ _ _ (ne_off (by omega))]
    refine World.cell?_setCell_same (u := .int .i64 u.due) _ _ _ ?_
    rw [World.cell?_setCell_other _ _ _ _ (ne_off (by omega))]; exact h.c1
  · rw [World.cell?_setCell_other _ _ _ _ (ne_off (by omega)), World.cell?_setCell_other _ _ _ _ (ne_off (by omega))]
    refine World.cell?_setCell_same (u := .int .u64 u.seq) _ _ _ ?_
    rw [World.cell?_setCell_other _ _ _ _ (ne_off (by omega)), World.cell?_setCell_other _ _ _ _ (ne_off (by omega))]; exact h.c2
  · rw [World.cell?_setCell_other _ _ _ _ (ne_off (by omega))]
    refine World.cell?_setCell_same (u := .slice u.pa u.pn u.pn) _ _ _ ?_
    rw [World.cell?_setCell_other _ _ _ _ (ne_off (by omega)), World.cell?_setCell_other _ _ _ _ (ne_off (by omega)), World.cell?_setCell_other _ _ _ _ (ne_off (by omega))]; exact h.c3
  · refine World.cell?_setCell_same (u := .slice u.ma u.mn u.mn) _ _ _ ?_
    rw [World.cell?_setCell_other _ _ _ _ (ne_off (by omega)), World.cell?_setCell_other _ _ _ _ (ne_off (by omega)), World.cell?_setCell_other _ _ _ _ (ne_off (by omega)), World.cell?_setCell_other _ _ _ _ (ne_off (by omega))]; exact h.c4
@[simp] theorem putWt_frozen (w : World) (b o : Nat) (t : Wt) (a : Addr) : (putWt w b o t).frozen? a = w.frozen? a := by simp [putWt]
@[simp] theorem putWt_size (w : World) (b o : Nat) (t : Wt) : (putWt w b o t).heap.size = w.heap.size := by simp [putWt]
theorem WtAt.of_eq {w w' : World} {b o : Nat} {t : Wt} (h : WtAt w b o t) (e : ∀ j, j < 5 → w'.cell? ⟨b, o + j, none⟩ = w.cell? ⟨b, o + j, none⟩) : WtAt w' b o t :=
  ⟨(e 0 (by omega)).trans h.c0, (e 1 (by omega)).trans h.c1, (e 2 (by omega)).trans h.c2, (e 3 (by omega)).trans h.c3, (e 4 (by omega)).trans h.c4⟩
theorem HeapAt.put {w : World} {T K nc : Nat} {f : Nat → Wt} (h : HeapAt w T K nc f) (hT : T < K) (k : Nat) (hk : k < nc * 1024) (t : Wt) :
    HeapAt (putWt w (K + k / 1024) (k % 1024 * 5) t) T K nc (fun i => if i = k then t else f i) := by
  refine ⟨fun c hc => ?_, fun c o hc => by rw [putWt_frozen]; exact h.thaw c o hc, fun i hi => ?_⟩
  · rw [putWt_other _ _ _ _ _ _ (by omega)]; exact h.tab c hc
  · by_cases e : i = k
    · subst e; simp only [if_pos]; exact putWt_same _ _ _ _ _ (h.at_ i hi)
    · rw [if_neg e]
      exact (h.at_ i hi).of_eq fun j hj => putWt_other _ _ _ _ _ _ (by omega)
theorem putWt_below {B : Nat} {a w : World} (h : Below B a w) {b o : Nat} {t : Wt} (hb : B ≤ b) : Below B a (putWt w b o t) :=
  ((((h.setCell hb _).setCell hb _).setCell hb _).setCell hb _).setCell hb _
theorem Heap2.step {w wr w1 : World} {nc k : Nat} {its : Nat → Item} {t : Wt} (h : Heap2 w wr nc k its) (hb : Below wr.heap.size wr w1) (hk : k < nc * 1024) (ht : t.isOf k (its k)) :
    Heap2 w (putWt w1 (w.heap.size + 2 + k / 1024) (k % 1024 * 5) t) nc (k + 1) its := by
  obtain ⟨⟨f, hf, hof⟩, hsz, r0, r1, rf, bel⟩ := h
  refine ⟨⟨_, (hf.below hb).put (by omega) k hk t, fun i hi => ?_⟩, by have := hb.size; simp; omega, ?_, ?_, fun o => ?_, ?_⟩
  · by_cases e : i = k
    · subst e; simp only [if_pos]; exact ht
    · rw [if_neg e]; exact hof i (by omega)
  · rw [putWt_other _ _ _ _ _ _ (by omega), hb.cell (by show w.heap.size < _; omega)]; exact r0
  · rw [putWt_other _ _ _ _ _ _ (by omega), hb.cell (by show w.heap.size < _; omega)]; exact r1
  · rw [putWt_frozen, hb.frozen (by show w.heap.size < _; omega)]; exact rf o
  · exact putWt_below (bel.trans (hb.mono (by omega))) (by omega)
end Go.Proofs.Ybulkcgeg
