import Derived.Test.YbulkcgegA6
namespace Go.Proofs.Ybulkcgeg
open Go.RowKit
theorem setCell_self {w : World} {b o : Nat} {v : Value} (h : w.cell? ⟨b, o, none⟩ = some v) : w.setCell ⟨b, o, none⟩ v = w := by
  have e : (w.setCell ⟨b, o, none⟩ v).heap = w.heap := by
    apply Array.ext_getElem?
    intro k
    simp only [World.setCell, Array.getElem?_modify]
    by_cases hk : b = k
    · subst hk
      simp only [if_true]
      unfold World.cell? at h
      cases hh : w.heap[b]? with
      | none => simp [hh] at h
      | some x =>
        cases x with
        | cells c t f =>
          simp only [hh, Option.isSome_none, Bool.false_eq_true, if_false] at h
          simp only [Option.map_some, Option.isSome_none, Bool.false_eq_true, if_false]
          congr 2
          apply Array.ext_getElem?
          intro j
          rw [Array.getElem?_setIfInBounds]
          split
          · subst_vars; split
            · exact h.symm
            · rename_i hh2; simp [Array.getElem?_eq_none (Nat.le_of_not_lt hh2)] at h
          · rfl
        | _ => simp [hh] at h
    · rw [if_neg hk]
  show ({ w with heap := (w.setCell ⟨b, o, none⟩ v).heap } : World) = w
  rw [e]
set_option maxRecDepth 100000 in
set_option maxHeartbeats 400000 in
theorem init_no (b o : Nat) (w : World) (h : w.cell? ⟨b, o + 1, none⟩ = some (.int .i64 0)) :
    Calls Yba.prog 22 #[.pointer (some ⟨b, o, none⟩)] w fun e w' => e = .returned (.tuple #[]) ∧ w' = w := by
  go_enter Yba.func22, Yba.ntmps22
  go_wp2
  refine wp_loop_rounds 1 ?_; rw [rounds_succ]
  go_wp2
  go_end0
  exact ⟨rfl, rfl⟩
set_option maxRecDepth 100000 in
set_option maxHeartbeats 400000 in
theorem drop_no (b o : Nat) (s : Int) (w : World) (h : w.cell? ⟨b, o + 1, none⟩ = some (.int .i64 0)) (hf : w.frozen? ⟨b, o + 1, none⟩ = false) :
    Calls Yba.prog 16 #[.pointer (some ⟨b, o, none⟩), .int .u64 s] w fun e w' => e = .returned (.tuple #[.int .i64 0, .agg #[.string ⟨#[]⟩, .int .i64 0, .int .u64 0, .slice none 0 0, .slice none 0 0], .int .i64 0]) ∧ Below w.heap.size w w' := by
  have g := World.block_lt_of_cell? _ _ h
  simp only at g
  have hs := setCell_self h
  go_enter Yba.func16, Yba.ntmps16
  go_wp2
  refine wp_loop_rounds 1 ?_; rw [rounds_succ]
  go_wp2
  refine wp_loop_rounds 1 ?_; rw [rounds_succ]
  go_wp2_with (go_at_call 22; refine (init_no b o _ (cell_later ((Below.refl _ _).alloc (Nat.le_refl _) _) h)).mono ?_; rintro e w' ⟨rfl, rfl⟩)
  go_region
  all_goals (try go_wp2)
  all_goals exact bodyPost_ret (v := .tuple #[.int .i64 0, .agg #[.string ⟨#[]⟩, .int .i64 0, .int .u64 0, .slice none 0 0, .slice none 0 0], .int .i64 0]) (by simp +arith [results, Yba.results16, go_sem]) rfl ⟨rfl, by repeat (first | exact Below.refl _ _ | refine Below.drew ?_ | refine Below.alloc ?_ (by simp +arith) _)⟩
theorem WtAt.selfs {w : World} {n : Nat} {t : Wt} (h : WtAt w n 0 t) : w.setCell ⟨n, 0, none⟩ (.string t.id) = w ∧ w.setCell ⟨n, 1, none⟩ (.int .i64 t.due) = w ∧ w.setCell ⟨n, 2, none⟩ (.int .u64 t.seq) = w ∧ w.setCell ⟨n, 3, none⟩ (.slice t.pa t.pn t.pn) = w ∧ w.setCell ⟨n, 4, none⟩ (.slice t.ma t.mn t.mn) = w :=
  ⟨setCell_self h.c0, setCell_self (by have := h.c1; rwa [Nat.zero_add] at this), setCell_self (by have := h.c2; rwa [Nat.zero_add] at this), setCell_self (by have := h.c3; rwa [Nat.zero_add] at this), setCell_self (by have := h.c4; rwa [Nat.zero_add] at this)⟩
theorem WtAt.selfz {w : World} {n : Nat} (h : WtAt w n 0 Wt.zero) : w.setCell ⟨n, 0, none⟩ (.string ⟨#[]⟩) = w ∧ w.setCell ⟨n, 1, none⟩ (.int .i64 0) = w ∧ w.setCell ⟨n, 2, none⟩ (.int .u64 0) = w ∧ w.setCell ⟨n, 3, none⟩ (.slice none 0 0) = w ∧ w.setCell ⟨n, 4, none⟩ (.slice none 0 0) = w := h.selfs
theorem nnil28 (w : World) (r : Option Nat) : (binOp .neq 28 (.map r) (.map none)).run Yba.prog w = .ok (.bool (!r.isNone)) w := run_neq_map_nil w 28 9 29 r Yba.underlying28
set_option maxRecDepth 100000 in
set_option maxHeartbeats 400000 in
/-- queue.dropBefore at another place than the spill's: the fresh set is empty. -/
theorem qdrop_other (qb m2 : Nat) (s at_ extra : Int) (w : World) (hs : (s == at_) = false) (x0 : -9223372036854775808 ≤ extra) (x1 : extra ≤ 9223372036854775807) (c1 : w.cell? ⟨qb, 1, none⟩ = some (.int .i64 0)) (c11 : w.cell? ⟨qb, 11, none⟩ = some (.map (some m2)))
    (c15 : w.cell? ⟨qb, 15, none⟩ = some (.int .u64 at_)) (c16 : w.cell? ⟨qb, 16, none⟩ = some (.int .i64 extra)) (hf : ∀ j, w.frozen? ⟨qb, j, none⟩ = false) :
    Calls Yba.prog 9 #[.pointer (some ⟨qb, 0, none⟩), .int .u64 s] w fun e w' => e = .returned (.tuple #[.int .i64 0, .agg #[.string ⟨#[]⟩, .int .i64 0, .int .u64 0, .slice none 0 0, .slice none 0 0]]) ∧ Below w.heap.size w w' := by
  have g := World.block_lt_of_cell? _ _ c1
  simp only at g
  have nn := nnil28
  have hself := setCell_self c16
  have f1 := hf 1
  have f16 := hf 16
  clear hf
  go_enter Yba.func9, Yba.ntmps9
  go_wp2_with (go_at_call 16; refine (drop_no qb 0 s _ (cell_later ((Below.refl _ _).alloc (Nat.le_refl _) _) c1) (by rw [World.frozen?_alloc_past _ _ _ g]; exact f1)).mono ?_; rintro e w' ⟨rfl, hb⟩; obtain ⟨hc1, hc2⟩ := bcell hb; obtain ⟨s0, s1, s2, s3, s4⟩ := ((zero_new w).below hb).selfz; have s16 := setCell_self (cell_later hb (cell_later ((Below.refl _ _).alloc (Nat.le_refl _) _) c16)))
  go_region
  all_goals (try go_wp2)
  have hb2 := ((Below.refl w.heap.size w).alloc (Nat.le_refl _) (.cells #[.string ⟨#[]⟩, .int .i64 0, .int .u64 0, .slice none 0 0, .slice none 0 0] 55)).trans (hb.mono (by simp))
  have h1 : w.heap.size < w.heap.size + 1 := by omega
  exact bodyPost_ret (v := .tuple #[.int .i64 0, .agg #[.string ⟨#[]⟩, .int .i64 0, .int .u64 0, .slice none 0 0, .slice none 0 0]]) (by simp +arith [results, Yba.results9, go_sem, hc1]) rfl ⟨rfl, hb2.drew⟩
end Go.Proofs.Ybulkcgeg
