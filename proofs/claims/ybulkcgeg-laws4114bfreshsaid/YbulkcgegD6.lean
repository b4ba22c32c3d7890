import Derived.Test.YbulkcgegD5
import Derived.StringKeys
import Derived.Deep.RegionWith
namespace Go.Proofs.Ybulkcgeg
open Go.RowKit Go.Maps Go.WideMaps
set_option linter.unusedVariables false
set_option linter.unusedSimpArgs false
theorem klaw : Keyed Yba.prog 9 := string_keyed Yba.underlying9
def idLit (s : ByteArray) : Lit := .string s.data.toList
abbrev OwnsIds (w : World) (m n : Nat) (D : DataW Unit) : Prop := w.ownsMap Yba.prog 9 (unitElem (H := Unit)) m n D
theorem cost_bounds (it : Item) (ok : it.ok) : 163 ≤ costOf it ∧ costOf it ≤ 300 := by
  obtain ⟨a, b, c, d⟩ := ok
  unfold costOf
  omega
theorem Fr.alloc {S : Nat → Prop} {a w : World} (h : Fr S a w) (o : Obj) : Fr S a (w.alloc o) :=
  ⟨h.os, h.tape, h.output, by have := h.size; simp; omega, fun k hk hs => by rw [Below.heap_alloc _ _ _ (by have := h.size; omega)]; exact h.block k hk hs⟩
set_option maxRecDepth 100000 in
set_option maxHeartbeats 1000000 in
theorem forget_any (b o m n i : Nat) (B : Int) (t : Wt) (it : Item) (D : DataW Unit) (w : World) (ok : it.ok) (h : t.isOf i it) (hid : t.id.size ≤ maxLen) (c2 : w.cell? ⟨b, o + 2, none⟩ = some (.map (some m))) (c3 : w.cell? ⟨b, o + 3, none⟩ = some (.int .i64 B)) (f3 : w.frozen? ⟨b, o + 3, none⟩ = false)
    (hown : OwnsIds w m n D) (hB0 : costOf it ≤ B) (hB1 : B ≤ 1000000000) :
    Calls Yba.prog 21 #[.pointer (some ⟨b, o, none⟩), .agg #[.string t.id, .int .i64 t.due, .int .u64 t.seq, .slice t.pa t.pn t.pn, .slice t.ma t.mn t.mn]] w fun e w' => e = .returned (.tuple #[]) ∧ OwnsIds w' m n (D.del (idLit t.id)) ∧ w'.cell? ⟨b, o + 3, none⟩ = some (.int .i64 (B - costOf it)) ∧ (∀ j, j ≠ o + 3 → w'.cell? ⟨b, j, none⟩ = w.cell? ⟨b, j, none⟩) ∧ (∀ j, w'.frozen? ⟨b, j, none⟩ = w.frozen? ⟨b, j, none⟩) ∧ Fr (fun k => k = m ∨ k = b) w w' := by
  have g := World.block_lt_of_cell? _ _ c2
  simp only at g
  obtain ⟨W', hrun, hown', hturn⟩ := World.ownsMap.drop (t := 28) (e := 29) (ty := 0) (World.ownsMap.drew (World.ownsMap.alloc hown (Obj.cells #[.string t.id, .int .i64 t.due, .int .u64 t.seq, .slice t.pa t.pn t.pn, .slice t.ma t.mn t.mn] 55))) klaw Yba.underlying28 (keyOf_string_mk Yba.underlying9 hid)
  have hgr := hturn.grown
  have hlt : m < w.heap.size := hown.lt
  have hmb : ¬ b = m := by
    intro e; subst e
    obtain ⟨es, cl, hb, _⟩ := hown
    simp [World.cell?, hb] at c2
  have old : ∀ k, k < w.heap.size + 1 → k ≠ m → W'.heap[k]? = (w.alloc (Obj.cells #[.string t.id, .int .i64 t.due, .int .u64 t.seq, .slice t.pa t.pn t.pn, .slice t.ma t.mn t.mn] 55)).heap[k]? := fun k hk hne => hgr.block k (by simpa using hk) (by intro e; exact hne (by simpa using e))
  have q3 : W'.cell? ⟨b, o + 3, none⟩ = some (.int .i64 B) := by
    rw [World.cell?_of_block (w := (w.alloc (Obj.cells #[.string t.id, .int .i64 t.due, .int .u64 t.seq, .slice t.pa t.pn t.pn, .slice t.ma t.mn t.mn] 55))) (old b (by omega) hmb), World.cell?_alloc_past _ _ _ g]; exact c3
  have qf : W'.frozen? ⟨b, o + 3, none⟩ = false := by
    rw [World.frozen?_of_block (w := (w.alloc (Obj.cells #[.string t.id, .int .i64 t.due, .int .u64 t.seq, .slice t.pa t.pn t.pn, .slice t.ma t.mn t.mn] 55))) (old b (by omega) hmb), World.frozen?_alloc_past _ _ _ g]; exact f3
  have e0 : ∀ j v, (#[Value.string t.id, .int .i64 t.due, .int .u64 t.seq, .slice t.pa t.pn t.pn, .slice t.ma t.mn t.mn] : Array Value)[j]? = some v → W'.cell? ⟨w.heap.size, j, none⟩ = some v := fun j v hj => by
    rw [World.cell?_of_block (w := (w.alloc (Obj.cells #[.string t.id, .int .i64 t.due, .int .u64 t.seq, .slice t.pa t.pn t.pn, .slice t.ma t.mn t.mn] 55))) (old w.heap.size (by omega) (by omega)), World.cell?_alloc_at _ _ _ _ rfl]; exact hj
  have b0 := e0 0 (.string t.id) rfl
  have b1 := e0 1 (.int .i64 t.due) rfl
  have b2 := e0 2 (.int .u64 t.seq) rfl
  have b3 := e0 3 (.slice t.pa t.pn t.pn) rfl
  have b4 := e0 4 (.slice t.ma t.mn t.mn) rfl
  have hsz : w.heap.size + 1 ≤ W'.heap.size := by have := hgr.size; simpa using this
  have gW : b < W'.heap.size := by omega
  have gW2 : w.heap.size < W'.heap.size := by omega
  have FR : Fr (fun k => k = m ∨ k = b) w W' := ⟨hgr.os, hgr.tape, hgr.output, by omega, fun k hk hs => by rw [old k (by omega) (fun e => hs (Or.inl e)), Below.heap_alloc _ _ _ hk]⟩
  have HBc : ∀ j, W'.cell? ⟨b, j, none⟩ = w.cell? ⟨b, j, none⟩ := fun j => by
    rw [World.cell?_of_block (w := (w.alloc (Obj.cells #[.string t.id, .int .i64 t.due, .int .u64 t.seq, .slice t.pa t.pn t.pn, .slice t.ma t.mn t.mn] 55))) (old b (by omega) hmb), World.cell?_alloc_past _ _ _ g]
  have HBf : ∀ j, W'.frozen? ⟨b, j, none⟩ = w.frozen? ⟨b, j, none⟩ := fun j => by
    rw [World.frozen?_of_block (w := (w.alloc (Obj.cells #[.string t.id, .int .i64 t.due, .int .u64 t.seq, .slice t.pa t.pn t.pn, .slice t.ma t.mn t.mn] 55))) (old b (by omega) hmb), World.frozen?_alloc_past _ _ _ g]
  have HO := hide (And.intro hown' (And.intro FR (And.intro HBc HBf)))
  clear HBc HBf
  clear hown' FR old e0 hgr hturn hown
  go_enter Yba.func21, Yba.ntmps21
  go_wp2
  go_region
  clear hrun
  all_goals go_wp2_with fail
  go_region_with (go_at_call 20; refine (wcost_any t i it _ ok h).mono ?_; rintro e w' ⟨rfl, rfl⟩)
  all_goals go_wp2
  all_goals
    go_end0
    obtain ⟨ho, hfr, hbc, hbf⟩ := HO.out
    have hcb := cost_bounds it ok
    have hw : IntKind.i64.wrap (B - costOf it) = B - costOf it := by rw [IntKind.wrap_i64]; omega
    rw [hw]
    refine ⟨rfl, ((ho.setCell (a := ⟨b, o + 3, none⟩) (Ne.symm hmb) _).alloc _).drew, ?_, fun j hj => ?_, fun j => ?_, (Fr.alloc (hfr.setCell (p := ⟨b, o + 3, none⟩) (Or.inl (Or.inr rfl)) _) _).drew⟩
    · rw [World.cell?_drew, World.cell?_alloc_past _ _ _ (by simpa using gW)]; exact World.cell?_setCell_same _ _ _ q3
    · rw [World.cell?_drew, World.cell?_alloc_past _ _ _ (by simpa using gW), World.cell?_setCell_other _ _ _ _ (ne_off (Ne.symm hj))]; exact hbc j
    · rw [World.frozen?_drew, World.frozen?_alloc_past _ _ _ (by simpa using gW), World.frozen?_setCell]; exact hbf j
end Go.Proofs.Ybulkcgeg
