import Derived.Test.YbulkcggyDoorK1
namespace Go.Proofs.YbulkcggyDoor
open Go.RowKit
set_option linter.unusedVariables false
set_option linter.unusedSimpArgs false
set_option maxRecDepth 100000
theorem Ybad.loc : ∃ T, Ybad.prog.underlying 25 = some (.pointer T) ∧ (Ybad.prog.info? T).map (fun i => decide (0 < i.size)) = some true := ⟨_, Ybad.underlying25, by kernel_rfl⟩
theorem ptr25 (D d : Nat) (hD : D = d + 1) (a : Addr) (w : World) : (Op.equalIn D 25 (.pointer (some a)) (.pointer (some a))).run Ybad.prog w = .ok true w := by
  subst hD
  obtain ⟨T, h1, h2⟩ := Ybad.loc
  cases hq : Ybad.prog.info? T with
  | none => simp [hq] at h2
  | some j =>
    have hs : 0 < j.size := by simpa [hq] using h2
    simp [Op.equalIn, run_underlying h1, sizeOf, typeInfo, hq, hs, run_sameAddr_same, Nat.pos_iff_ne_zero.1 hs]
theorem eq25 (a : Addr) (w : World) : (binOp .eql 25 (.pointer (some a)) (.pointer (some a))).run Ybad.prog w = .ok (.bool true) w := by
  have h := ptr25 10000 9999 (by decide) a w
  simp only [binOp]
  simp [Op.equal, Op.maxDepth, h]
theorem setLoc_any (b g : Nat) (w : World) (h : w.cell? ⟨b, 0, none⟩ = some (.int .u64 0)) (h2 : w.cell? ⟨b, 2, none⟩ = some (.pointer none)) (hf : w.frozen? ⟨b, 0, none⟩ = false) (hf2 : w.frozen? ⟨b, 2, none⟩ = false) (hg : g = 0) :
    Calls Ybad.prog 20 #[.pointer (some ⟨b, 0, none⟩), .pointer (some ⟨g, 0, none⟩)] w fun e w' => e = .returned (.tuple #[]) ∧ w' = w := by
  subst hg
  have hs := setCell_self h2
  have q := eq25
  go_enter Ybad.func20, Ybad.ntmps20
  go_wp2_with (first | (go_at_call 9; refine (strip_any _ _ h hf).mono ?_; rintro e w1 ⟨rfl, rfl⟩))
  go_end0
  exact ⟨rfl, rfl⟩
theorem utc_any (x : Int) (w : World) :
    Calls Ybad.prog 11 #[.agg #[.int .u64 0, .int .i64 x, .pointer none]] w fun e w' => e = .returned (.agg #[.int .u64 0, .int .i64 x, .pointer none]) ∧ w' = W2 w x x := by
  go_enter Ybad.func11, Ybad.ntmps11
  go_wp2_with (first | (go_at_call 20; refine (setLoc_any _ _ _ ?_ ?_ ?_ ?_ rfl).mono ?_; (simp +arith [World.cell?_alloc_past, World.cell?_alloc_at]); (simp +arith [World.cell?_alloc_past, World.cell?_alloc_at]); (simp +arith [World.cell?_alloc_past, World.cell?_alloc_at]); (simp +arith [World.cell?_alloc_past, World.cell?_alloc_at]); rintro e w1 ⟨rfl, rfl⟩))
  exact bodyPost_ret (v := .agg #[.int .u64 0, .int .i64 x, .pointer none]) (by simp +arith [results, Ybad.results11, go_sem]) rfl ⟨rfl, rfl⟩
theorem sign_any (c s : Int) (w : World) :
    Calls Ybad.prog 15 #[.agg #[.int .i64 c, .int .i64 s]] w fun e w' => (∃ r : Int, e = .returned (.int .i64 r) ∧ (0 < r ↔ 0 < c)) ∧ Below w.heap.size w w' := by
  have hb : Hid (∀ o, Below w.heap.size w (w.alloc o)) := ⟨fun o => (Below.refl _ _).alloc (Nat.le_refl _) o⟩
  rcases Int.lt_trichotomy c 0 with h | h | h
  · go_enter Ybad.func15, Ybad.ntmps15
    go_wp2
    go_ret
    exact ⟨⟨-1, by rfl, by omega⟩, hb.out _⟩
  · subst h
    go_enter Ybad.func15, Ybad.ntmps15
    go_wp2
    go_ret
    exact ⟨⟨0, by rfl, by omega⟩, hb.out _⟩
  · have h2 : ¬ c < 0 := by omega
    go_enter Ybad.func15, Ybad.ntmps15
    go_wp2
    go_ret
    exact ⟨⟨1, by rfl, by omega⟩, hb.out _⟩
theorem trim_any (k : Int) (s : Nat) (w : World) (hk : 1 ≤ k ∧ k ≤ 3) (hs : s ≤ 2) :
    Calls Ybad.prog 12 #[.agg #[.int .i64 (k * 10 ^ s), .int .i64 s]] w fun e w' => e = .returned (.agg #[.int .i64 k, .int .i64 0]) ∧ w' = (w.alloc (.cells #[.int .i64 k, .int .i64 0] 31)).alloc (.cells #[.int .i64 k, .int .i64 0] 31) := by
  have a1 : (k * 10).tdiv 10 = k := by rcases (by omega : k = 1 ∨ k = 2 ∨ k = 3) with rfl | rfl | rfl <;> decide
  have a2 : (k * 10).tmod 10 = 0 := by rcases (by omega : k = 1 ∨ k = 2 ∨ k = 3) with rfl | rfl | rfl <;> decide
  have a3 : (k * 100).tdiv 10 = k * 10 := by rcases (by omega : k = 1 ∨ k = 2 ∨ k = 3) with rfl | rfl | rfl <;> decide
  have a4 : (k * 100).tmod 10 = 0 := by rcases (by omega : k = 1 ∨ k = 2 ∨ k = 3) with rfl | rfl | rfl <;> decide
  have b1 := wrap_in k (by omega) (by omega)
  have b2 := wrap_in (k * 10) (by omega) (by omega)
  match s, hs with
  | 0, _ =>
    rw [show k * 10 ^ 0 = k by omega]
    go_enter Ybad.func12, Ybad.ntmps12
    go_wp2
    refine wp_loop_rounds 1 ?_; rw [rounds_succ]
    go_wp2
    exact bodyPost_ret (v := .agg #[.int .i64 k, .int .i64 0]) (by simp +arith [results, Ybad.results12, go_sem]) rfl ⟨rfl, rfl⟩
  | 1, _ =>
    rw [show k * 10 ^ 1 = k * 10 by omega]
    go_enter Ybad.func12, Ybad.ntmps12
    go_wp2
    refine wp_loop_rounds 2 ?_; rw [rounds_succ]
    go_wp2
    rw [rounds_succ]
    go_wp2
    exact bodyPost_ret (v := .agg #[.int .i64 k, .int .i64 0]) (by simp +arith [results, Ybad.results12, go_sem]) rfl ⟨rfl, rfl⟩
  | 2, _ =>
    rw [show k * 10 ^ 2 = k * 100 by omega]
    go_enter Ybad.func12, Ybad.ntmps12
    go_wp2
    refine wp_loop_rounds 3 ?_; rw [rounds_succ]
    go_wp2
    rw [rounds_succ]
    go_wp2
    rw [rounds_succ]
    go_wp2
    exact bodyPost_ret (v := .agg #[.int .i64 k, .int .i64 0]) (by simp +arith [results, Ybad.results12, go_sem]) rfl ⟨rfl, rfl⟩
theorem S6 {V w' : World} {A B : Nat} {x y : Int} (h : Below V.heap.size V w') (a0 : V.cell? ⟨A, 0, none⟩ = some (.int .u64 0)) (a1 : V.cell? ⟨A, 1, none⟩ = some (.int .i64 x)) (a2 : V.cell? ⟨A, 2, none⟩ = some (.pointer none)) (b0 : V.cell? ⟨B, 0, none⟩ = some (.int .u64 0)) (b1 : V.cell? ⟨B, 1, none⟩ = some (.int .i64 y)) (b2 : V.cell? ⟨B, 2, none⟩ = some (.pointer none)) :
    w'.cell? ⟨A, 0, none⟩ = some (.int .u64 0) ∧ w'.cell? ⟨A, 1, none⟩ = some (.int .i64 x) ∧ w'.cell? ⟨A, 2, none⟩ = some (.pointer none) ∧ w'.cell? ⟨B, 0, none⟩ = some (.int .u64 0) ∧ w'.cell? ⟨B, 1, none⟩ = some (.int .i64 y) ∧ w'.cell? ⟨B, 2, none⟩ = some (.pointer none) := by
  have lA : A < V.heap.size := World.block_lt_of_cell? _ _ a0
  have lB : B < V.heap.size := World.block_lt_of_cell? _ _ b0
  exact ⟨by rw [h.cell (by exact lA)]; exact a0, by rw [h.cell (by exact lA)]; exact a1, by rw [h.cell (by exact lA)]; exact a2, by rw [h.cell (by exact lB)]; exact b0, by rw [h.cell (by exact lB)]; exact b1, by rw [h.cell (by exact lB)]; exact b2⟩
/-- time.Time.Sub of two plain times that lie near. -/
theorem sub_any (x y : Int) (w : World) (h1 : -1000000 ≤ x - y) (h2 : x - y ≤ 1000000) (hx : -10000000 ≤ x ∧ x ≤ 10000000) (hy : -10000000 ≤ y ∧ y ≤ 10000000) :
    Calls Ybad.prog 14 #[.agg #[.int .u64 0, .int .i64 x, .pointer none], .agg #[.int .u64 0, .int .i64 y, .pointer none]] w fun e w' => e = .returned (.int .i64 ((x - y) * 1000000000)) ∧ Below w.heap.size w w' := by
  obtain ⟨V, A, B, hV⟩ := P2.mk' w x y
  have c1 := wrap_in (x - y) (by omega) (by omega)
  have c2 := wrap_in ((x - y) * 1000000000) (by omega) (by omega)
  have lA : A < V.heap.size := World.block_lt_of_cell? _ _ hV.a0
  have lB : B < V.heap.size := World.block_lt_of_cell? _ _ hV.b0
  have hadd := fun w => add_any y ((x - y) * 1000000000) (x - y) w (Int.mul_tdiv_cancel _ (by decide)) (Int.mul_tmod_left _ _) (wrap_in _ (by omega) (by omega)) c1
  have e1 : y + (x - y) = x := by omega
  rw [e1] at hadd
  have HADD := hide hadd
  clear hadd e1
  go_enter Ybad.func14, Ybad.ntmps14
  go_upto_region 1 with fail
  rw [← hV.eq, ← hV.eqB, ← hV.eqA]
  have HB := hide hV.bel
  obtain ⟨hveq, hveA, hveB, a0, a1, a2, b0, b1, b2, _⟩ := hV
  clear hveq hveA hveB
  go_upto_region 5 with (first
    | (go_at_call_of 7 (Value.pointer (some ⟨A, 0, none⟩)); refine (nsec_any _ _ a0).mono ?_; rintro e w1 ⟨rfl, rfl⟩)
    | (go_at_call_of 7 (Value.pointer (some ⟨B, 0, none⟩)); refine (nsec_any _ _ b0).mono ?_; rintro e w1 ⟨rfl, rfl⟩)
    | (go_at_call_of 19 (Value.pointer (some ⟨A, 0, none⟩)); refine (sec_any _ x _ a0 a1).mono ?_; rintro e w1 ⟨rfl, rfl⟩)
    | (go_at_call_of 19 (Value.pointer (some ⟨B, 0, none⟩)); refine (sec_any _ y _ b0 b1).mono ?_; rintro e w1 ⟨rfl, rfl⟩))
  go_region_held3 (fun w' => w'.cell? ⟨A, 0, none⟩ = some (.int .u64 0) ∧ w'.cell? ⟨A, 1, none⟩ = some (.int .i64 x) ∧ w'.cell? ⟨A, 2, none⟩ = some (.pointer none) ∧ w'.cell? ⟨B, 0, none⟩ = some (.int .u64 0) ∧ w'.cell? ⟨B, 1, none⟩ = some (.int .i64 y) ∧ w'.cell? ⟨B, 2, none⟩ = some (.pointer none)) (exact S6 (by (try unfold W2); repeat (first | exact Below.refl _ _ | refine Below.drew ?_ | refine Below.alloc ?_ (by simp +arith) _)) a0 a1 a2 b0 b1 b2)
    (first
      | (go_at_call 4; refine (HADD.out _).mono ?_; rintro e w' ⟨rfl, rfl⟩)
      | (go_at_call 22; refine (equal_any x _).mono ?_; rintro e w' ⟨rfl, rfl⟩))
  all_goals go_wp2
  all_goals go_ret
  all_goals exact ⟨by rfl, by unfold W2; repeat (first | exact HB.out | refine Below.drew ?_ | refine Below.alloc ?_ (by have := HB.out.size; simp; omega) _)⟩
end Go.Proofs.YbulkcggyDoor
