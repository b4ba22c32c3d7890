import Derived.Test.YbulkcgegD2
import Derived.Test.YbulkcgegP1
namespace Go.Proofs.Ybulkcgeg
open Go.RowKit
set_option linter.unusedVariables false
set_option linter.unusedSimpArgs false
theorem bdrew {w w' : World} (h : Below w.drew.heap.size w.drew w') : Below w.heap.size w w' := ⟨h.os, h.tape, h.output, h.size, h.block⟩
set_option maxRecDepth 100000 in
set_option maxHeartbeats 1000000 in
theorem hless_any (hb ho T K nc i j : Nat) (f : Nat → Wt) (w : World) (hnc : nc ≤ 4) (hi : i < nc * 1024) (hj : j < nc * 1024) (hc : w.cell? ⟨hb, ho, none⟩ = some (.slice (some ⟨T, 0, none⟩) nc nc)) (hf : HeapAt w T K nc f) :
    Calls Yba.prog 28 #[.pointer (some ⟨hb, ho, none⟩), .int .i64 i, .int .i64 j] w fun e w' => e = .returned (.bool (ltW (f i) (f j))) ∧ Below w.heap.size w w' := by
  obtain ⟨c0, c1, c2, c3, c4⟩ := hf.at_ i hi
  obtain ⟨d0, d1, d2, d3, d4⟩ := hf.at_ j hj
  have HT := hide hf.tab
  clear hf
  go_enter Yba.func28, Yba.ntmps28
  go_wp2
  go_region_held3 (fun w' => w'.cell? ⟨K + i / 1024, i % 1024 * 5, none⟩ = some (.string (f i).id) ∧ w'.cell? ⟨K + i / 1024, i % 1024 * 5 + 1, none⟩ = some (.int .i64 (f i).due) ∧ w'.cell? ⟨K + i / 1024, i % 1024 * 5 + 2, none⟩ = some (.int .u64 (f i).seq) ∧ w'.cell? ⟨K + i / 1024, i % 1024 * 5 + 3, none⟩ = some (.slice (f i).pa (f i).pn (f i).pn) ∧ w'.cell? ⟨K + i / 1024, i % 1024 * 5 + 4, none⟩ = some (.slice (f i).ma (f i).mn (f i).mn) ∧
      w'.cell? ⟨K + j / 1024, j % 1024 * 5, none⟩ = some (.string (f j).id) ∧ w'.cell? ⟨K + j / 1024, j % 1024 * 5 + 1, none⟩ = some (.int .i64 (f j).due) ∧ w'.cell? ⟨K + j / 1024, j % 1024 * 5 + 2, none⟩ = some (.int .u64 (f j).seq) ∧ w'.cell? ⟨K + j / 1024, j % 1024 * 5 + 3, none⟩ = some (.slice (f j).pa (f j).pn (f j).pn) ∧ w'.cell? ⟨K + j / 1024, j % 1024 * 5 + 4, none⟩ = some (.slice (f j).ma (f j).mn (f j).mn)) (first | exact ⟨c0, c1, c2, c3, c4, d0, d1, d2, d3, d4⟩ | exact ⟨(hc1 _ _ g1).trans c0, (hc1 _ _ g1).trans c1, (hc1 _ _ g1).trans c2, (hc1 _ _ g1).trans c3, (hc1 _ _ g1).trans c4, (hc1 _ _ g2).trans d0, (hc1 _ _ g2).trans d1, (hc1 _ _ g2).trans d2, (hc1 _ _ g2).trans d3, (hc1 _ _ g2).trans d4⟩)
    (first | (go_at_call 12; refine (at_any hb ho T K nc _ _ hnc (by assumption) (by simpa using hc) (fun c h => by simpa using HT.out c h)).mono ?_; rintro e w' ⟨rfl, rfl⟩) | (go_at_call 19; refine (before_any (f i) (f j) _).mono ?_; rintro e w' ⟨rfl, hb2⟩; obtain ⟨hc1, hc2⟩ := bcellD hb2; have g1 := World.block_lt_of_cell? _ _ c0; have g2 := World.block_lt_of_cell? _ _ d0; simp only at g1 g2))
  all_goals go_wp2
  all_goals (go_ret; exact ⟨rfl, bdrew hb2⟩)
/-- Nothing that was there has turned but in the blocks of S. -/
structure Fr (S : Nat → Prop) (w w' : World) : Prop where
  os : w'.os = w.os
  tape : w'.tape = w.tape
  output : w'.output = w.output
  size : w.heap.size ≤ w'.heap.size
  block : ∀ k, k < w.heap.size → ¬ S k → w'.heap[k]? = w.heap[k]?
theorem Fr.refl (S : Nat → Prop) (w : World) : Fr S w w := ⟨rfl, rfl, rfl, Nat.le_refl _, fun _ _ _ => rfl⟩
theorem Fr.trans {S : Nat → Prop} {a b c : World} (h : Fr S a b) (k : Fr S b c) : Fr S a c :=
  ⟨k.os.trans h.os, k.tape.trans h.tape, k.output.trans h.output, Nat.le_trans h.size k.size, fun i hi hs => (k.block i (Nat.lt_of_lt_of_le hi h.size) hs).trans (h.block i hi hs)⟩
theorem Fr.of_below {S : Nat → Prop} {w w' : World} (h : Below w.heap.size w w') : Fr S w w' := ⟨h.os, h.tape, h.output, h.size, fun k hk _ => h.block k hk⟩
theorem Fr.drew {S : Nat → Prop} {a w : World} (h : Fr S a w) : Fr S a w.drew := ⟨h.os, h.tape, h.output, h.size, h.block⟩
theorem Fr.setCell {S : Nat → Prop} {a w : World} (h : Fr S a w) {p : Addr} (hp : S p.block ∨ a.heap.size ≤ p.block) (u : Value) : Fr S a (w.setCell p u) :=
  ⟨h.os, h.tape, h.output, by simp only [World.size_setCell]; exact h.size, fun k hk hs => by
    rw [Below.heap_setCell _ _ _ _ (by rcases hp with hp | hp; · intro e; exact hs (e ▸ hp)
                                       · omega)]; exact h.block k hk hs⟩
theorem Fr.put {S : Nat → Prop} {a w : World} (h : Fr S a w) {b o : Nat} {t : Wt} (hb : S b ∨ a.heap.size ≤ b) : Fr S a (putWt w b o t) :=
  ((((h.setCell (p := ⟨b, _, none⟩) hb _).setCell (p := ⟨b, _, none⟩) hb _).setCell (p := ⟨b, _, none⟩) hb _).setCell (p := ⟨b, _, none⟩) hb _).setCell (p := ⟨b, _, none⟩) hb _
theorem Fr.cell {S : Nat → Prop} {w w' : World} (h : Fr S w w') {b o : Nat} {v : Value} (hs : ¬ S b) (hc : w.cell? ⟨b, o, none⟩ = some v) : w'.cell? ⟨b, o, none⟩ = some v := by
  rw [World.cell?_of_block (w := w) (h.block b (World.block_lt_of_cell? _ _ hc) hs)]; exact hc
theorem Fr.below {S : Nat → Prop} {w w' : World} (h : Fr S w w') {B : Nat} (hS : ∀ k, S k → B ≤ k) (hB : B ≤ w.heap.size) : Below B w w' :=
  ⟨h.os, h.tape, h.output, h.size, fun k hk => h.block k (by omega) (fun hs => by have := hS k hs; omega)⟩
/-- f' is f with its first n places changed about. -/
def Pm {α : Type} (n : Nat) (f f' : Nat → α) : Prop := ∃ σ : Nat → Nat, (∀ j, j < n → σ j < n) ∧ (∀ j j', j < n → j' < n → σ j = σ j' → j = j') ∧ (∀ j, n ≤ j → σ j = j) ∧ ∀ j, f' j = f (σ j)
theorem Pm.refl {α : Type} (n : Nat) (f : Nat → α) : Pm n f f := ⟨id, fun _ h => h, fun _ _ _ _ h => h, fun _ _ => rfl, fun _ => rfl⟩
theorem Pm.trans {α : Type} {n : Nat} {f g h : Nat → α} (a : Pm n f g) (b : Pm n g h) : Pm n f h := by
  obtain ⟨s, s1, s2, s3, s4⟩ := a
  obtain ⟨r, r1, r2, r3, r4⟩ := b
  exact ⟨fun j => s (r j), fun j hj => s1 _ (r1 j hj), fun j j' hj hj' e => r2 j j' hj hj' (s2 _ _ (r1 j hj) (r1 j' hj') e), fun j hj => by show s (r j) = j; rw [r3 j hj, s3 j hj], fun j => by rw [r4, s4]⟩
theorem Pm.swp {α : Type} {n : Nat} {f : Nat → α} {i l : Nat} (hi : i < n) (hl : l < n) (hil : ¬ l = i) : Pm n f (swp f i l) := by
  refine ⟨Ybulkcgeg.swp id i l, fun j hj => ?_, fun j j' hj hj' e => ?_, fun j hj => ?_, fun j => ?_⟩
  · unfold Ybulkcgeg.swp; split
    · exact hl
    · split
      · exact hi
      · exact hj
  · unfold Ybulkcgeg.swp at e
    by_cases a1 : j = i <;> by_cases a2 : j = l <;> by_cases b1 : j' = i <;> by_cases b2 : j' = l <;> simp only [a1, a2, b1, b2, hil, if_true, if_false, id] at e <;> omega
  · unfold Ybulkcgeg.swp; rw [if_neg (by omega), if_neg (by omega)]; rfl
  · unfold Ybulkcgeg.swp; split
    · rfl
    · split <;> rfl
theorem Kp.pm {α : Type} {Q : α → Nat → Prop} {n k : Nat} {keep : Nat → Bool} {f f' : Nat → α} {g : Nat → Nat} (h : Kp Q n k keep f g) (p : Pm k f f') : ∃ g', Kp Q n k keep f' g' := by
  obtain ⟨s, s1, s2, s3, s4⟩ := p
  exact ⟨fun j => g (s j), fun j hj => by rw [s4]; exact h.at_ _ (s1 j hj), fun j j' hj hj' e => s2 j j' hj hj' (h.inj _ _ (s1 j hj) (s1 j' hj') e)⟩
theorem Pm.past {α : Type} {n : Nat} {f f' : Nat → α} (p : Pm n f f') (j : Nat) (hj : n ≤ j) : f' j = f j := by
  obtain ⟨s, _, _, s3, s4⟩ := p; rw [s4, s3 j hj]
theorem ltW_asym (a b : Wt) (h : ltW a b = true) : ltW b a = false := by
  unfold ltW lessB at *
  simp only [Bool.or_eq_true, decide_eq_true_eq, Bool.and_eq_true, beq_iff_eq, Bool.or_eq_false_iff, decide_eq_false_iff_not, Bool.and_eq_false_imp] at *
  omega
theorem ltW_tr (a b c : Wt) (h : ltW a b = true) (h2 : ltW b c = true) : ltW a c = true := by
  unfold ltW lessB at *
  simp only [Bool.or_eq_true, decide_eq_true_eq, Bool.and_eq_true, beq_iff_eq] at *
  omega
theorem HeapAt.swap {w : World} {T K nc : Nat} {f : Nat → Wt} (h : HeapAt w T K nc f) (hT : T < K) {i l : Nat} (hi : i < nc * 1024) (hl : l < nc * 1024) (hil : ¬ l = i) :
    HeapAt (putWt (putWt w (K + i / 1024) (i % 1024 * 5) (f l)) (K + l / 1024) (l % 1024 * 5) (f i)) T K nc (swp f i l) := by
  have h2 := (h.put hT i hi (f l)).put hT l hl (f i)
  have e : (fun j => if j = l then f i else (fun j => if j = i then f l else f j) j) = swp f i l := by
    funext j; unfold swp
    by_cases e1 : j = i
    · by_cases e2 : j = l
      · omega
      · simp [e1, Ne.symm hil]
    · by_cases e2 : j = l <;> simp [e1, e2]
      intro e3; omega
  rw [e] at h2; exact h2
end Go.Proofs.Ybulkcgeg
