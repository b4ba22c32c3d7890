import Derived.Test.YbulkcgegA7
import Derived.Laws.EntriesVeiled
namespace Go.Proofs.Ybulkcgeg
open Go.RowKit
theorem cell_set_same {w : World} {a : Addr} {v : Value} (h : (w.cell? a).isSome = true) : (w.setCell a v).cell? a = some v := by
  obtain ⟨u, hu⟩ := Option.isSome_iff_exists.1 h
  exact World.cell?_setCell_same _ _ _ hu
theorem cell_set_other {w : World} {b o b' o' : Nat} {v : Value} (h : b = b' → ¬ o = o') : (w.setCell ⟨b, o, none⟩ v).cell? ⟨b', o', none⟩ = w.cell? ⟨b', o', none⟩ :=
  World.cell?_setCell_other _ _ _ _ (by intro h'; injection h' with h1 h2 h3; exact h h1 h2)
set_option maxRecDepth 100000 in
set_option maxHeartbeats 1000000 in
/-- queue.dropBefore at the spill's own place. -/
theorem qdrop_same (qb m2 n hd : Nat) (s sb extra : Int) (a4 a6 a13 : Value) (t : Wt) (w : World) (hn : n ≤ 4096) (hh : hd ≤ n)
    (c1 : w.cell? ⟨qb, 1, none⟩ = some (.int .i64 0))
    (c4 : w.cell? ⟨qb, 4, none⟩ = some a4) (c5 : w.cell? ⟨qb, 5, none⟩ = some (.int .i64 n)) (c6 : w.cell? ⟨qb, 6, none⟩ = some a6) (c7 : w.cell? ⟨qb, 7, none⟩ = some .nilFunc) (c8 : w.cell? ⟨qb, 8, none⟩ = some (.int .i64 n)) (c9 : w.cell? ⟨qb, 9, none⟩ = some .nilFunc)
    (c10 : w.cell? ⟨qb, 10, none⟩ = some (.int .i64 hd)) (c11 : w.cell? ⟨qb, 11, none⟩ = some (.map (some m2))) (c12 : w.cell? ⟨qb, 12, none⟩ = some (.int .i64 sb)) (c13 : w.cell? ⟨qb, 13, none⟩ = some a13) (c14 : w.cell? ⟨qb, 14, none⟩ = some (.pointer none))
    (c15 : w.cell? ⟨qb, 15, none⟩ = some (.int .u64 s)) (c16 : w.cell? ⟨qb, 16, none⟩ = some (.int .i64 extra)) (hf : ∀ j, w.frozen? ⟨qb, j, none⟩ = false)
    (hfr : ∀ w1, Below w.heap.size w w1 → Calls Yba.prog 14 #[.pointer (some ⟨qb, 4, none⟩)] w1 fun e w2 => ∃ ok : Bool, e = .returned (.tuple #[.agg #[.string t.id, .int .i64 t.due, .int .u64 t.seq, .slice t.pa t.pn t.pn, .slice t.ma t.mn t.mn], .bool ok]) ∧ Below w1.heap.size w1 w2) :
    Calls Yba.prog 9 #[.pointer (some ⟨qb, 0, none⟩), .int .u64 s] w fun e w' => e = .returned (.tuple #[.int .i64 ((n : Int) - hd), .agg #[.string t.id, .int .i64 t.due, .int .u64 t.seq, .slice t.pa t.pn t.pn, .slice t.ma t.mn t.mn]]) ∧ Below qb w w' ∧
      w'.cell? ⟨qb, 1, none⟩ = some (.int .i64 0) ∧ w'.cell? ⟨qb, 4, none⟩ = some (.slice none 0 0) ∧ w'.cell? ⟨qb, 5, none⟩ = some (.int .i64 0) ∧ w'.cell? ⟨qb, 6, none⟩ = some (.slice none 0 0) ∧ w'.cell? ⟨qb, 10, none⟩ = some (.int .i64 0) ∧ w'.cell? ⟨qb, 11, none⟩ = some (.map none) ∧ w'.cell? ⟨qb, 12, none⟩ = some (.int .i64 0) ∧ w'.cell? ⟨qb, 14, none⟩ = some (.pointer none) ∧
      w'.cell? ⟨qb, 15, none⟩ = some (.int .u64 s) ∧ w'.cell? ⟨qb, 16, none⟩ = some (.int .i64 (wrap64 (extra - sb))) := by
  have g := World.block_lt_of_cell? _ _ c1
  simp only at g
  have nn := nnil28
  have HF := hide hfr
  have HZ := hide hf
  have hf' := fun j => hf j
  clear hf hfr
  go_enter Yba.func9, Yba.ntmps9
  go_wp2_with (first | (go_at_call 14; refine (HF.out _ ((Below.refl _ _).alloc (Nat.le_refl _) _)).mono ?_; rintro e w' ⟨ok, rfl, hb⟩; obtain ⟨hc1, hc2⟩ := bcell hb))
  have P := put0 (t := t) ((zero_new w).below hb)
  have hb2 := ((Below.refl w.heap.size w).alloc (Nat.le_refl _) (.cells #[.string ⟨#[]⟩, .int .i64 0, .int .u64 0, .slice none 0 0, .slice none 0 0] 55)).trans (hb.mono (by simp))
  have PB : Below w.heap.size w (((((w'.setCell ⟨w.heap.size, 0, none⟩ (.string t.id)).setCell ⟨w.heap.size, 1, none⟩ (.int .i64 t.due)).setCell ⟨w.heap.size, 2, none⟩ (.int .u64 t.seq)).setCell ⟨w.heap.size, 3, none⟩ (.slice t.pa t.pn t.pn)).setCell ⟨w.heap.size, 4, none⟩ (.slice t.ma t.mn t.mn)) := by repeat (first | exact hb2 | refine Below.setCell ?_ (by simp) _)
  have PF : ∀ j, (((((w'.setCell ⟨w.heap.size, 0, none⟩ (.string t.id)).setCell ⟨w.heap.size, 1, none⟩ (.int .i64 t.due)).setCell ⟨w.heap.size, 2, none⟩ (.int .u64 t.seq)).setCell ⟨w.heap.size, 3, none⟩ (.slice t.pa t.pn t.pn)).setCell ⟨w.heap.size, 4, none⟩ (.slice t.ma t.mn t.mn)).frozen? ⟨w.heap.size, j, none⟩ = false := fun j => by
    simp only [World.frozen?_setCell]; rw [hc2 _ _ (by simp)]; simp
  revert P PB PF
  generalize (((((w'.setCell ⟨w.heap.size, 0, none⟩ (.string t.id)).setCell ⟨w.heap.size, 1, none⟩ (.int .i64 t.due)).setCell ⟨w.heap.size, 2, none⟩ (.int .u64 t.seq)).setCell ⟨w.heap.size, 3, none⟩ (.slice t.pa t.pn t.pn)).setCell ⟨w.heap.size, 4, none⟩ (.slice t.ma t.mn t.mn)) = W1
  rintro P PB PF
  clear hc1 hc2 hb hb2
  obtain ⟨hc1, hc2⟩ := bcell PB
  obtain ⟨p0, p1, p2, p3, p4⟩ := P
  simp only [Nat.zero_add] at p0 p1 p2 p3 p4
  refine (left_any qb 4 n hd _ hh hn ((hc1 _ _ g).trans c5) ((hc1 _ _ g).trans c10)).mono ?_
  rintro e w2 ⟨rfl, q, rfl⟩
  go_wp2_with fail
  go_region
  all_goals go_wp2
  all_goals go_region
  all_goals (try go_wp2)
  have gn1 : ¬ qb = w.heap.size := by omega
  have gn2 : ¬ w.heap.size = qb := by omega
  refine bodyPost_ret (v := .tuple #[.int .i64 ((n : Int) - hd), .agg #[.string t.id, .int .i64 t.due, .int .u64 t.seq, .slice t.pa t.pn t.pn, .slice t.ma t.mn t.mn]]) ?_ rfl ⟨rfl, ?_, ?_⟩
  · simp [results, Yba.results9, go_sem, cell_set_same, cell_set_other, p0, p1, p2, p3, p4, gn1]
  · have h0 := PB.mono (Nat.le_of_lt g)
    have hB0 : Below qb w (W1.drewN (q + 1)) := ⟨h0.os, h0.tape, h0.output, h0.size, h0.block⟩
    refine Below.drew ?_
    iterate 5 (refine Below.setCell ?_ (Nat.le_of_lt g) _)
    iterate 12 (refine Below.setCell ?_ (by exact Nat.le_refl qb) _)
    exact hB0
  · refine ⟨?_, ?_, ?_, ?_, ?_, ?_, ?_, ?_, ?_, ?_⟩ <;> simp [cell_set_same, cell_set_other, gn2, hc1, g, c1, c4, c5, c6, c10, c11, c12, c14, c15, c16]
end Go.Proofs.Ybulkcgeg
