import Derived.Test.YbulkcgfiS15
namespace Go.Proofs.Ybulkcgfi
open Go.RowKit
set_option linter.unusedVariables false
set_option linter.unusedSimpArgs false
set_option maxRecDepth 100000
theorem sortf_any (g cap : Nat) (d : Array ID) (w : World) (h0 : SR w g d w) (hg : g < w.heap.size) (hn : d.size ≤ 1024) :
    Calls Yba.prog 7 #[.slice (some ⟨g, 0, none⟩) d.size cap, .func (.func 8) #[] #[]] w fun e w' => e = .returned (.tuple #[]) ∧ SR w g (Sort.sort Sort.ltStr d) w' := by
  have HL := hide (fun w => len_any d.size w hn)
  have hk : Sort.bitsLen d.size ≤ 64 := (Sort.bitsLen_le_iff d.size 64).2 (by omega)
  have HP := hide (pdq_any (d.size - 0 + 1) g cap 0 d.size (Sort.bitsLen d.size) d w (by omega) h0 hg (Nat.zero_le _) (Nat.le_refl _) hn hk (Or.inl rfl))
  have m1 : IntKind.u64.wrap (d.size : Int) = d.size := by rw [IntKind.wrap_u64]; omega
  clear h0
  go_enter Yba.func7, Yba.ntmps7
  go_wp2_with (first
    | (go_at_call 13; refine (HL.out _).mono ?_; rintro e w' ⟨rfl, rfl⟩)
    | (go_at_call 12; refine HP.out.mono ?_; rintro e w1 ⟨rfl, hs1⟩; have HS1 := hide hs1; clear hs1))
  go_end0
  exact ⟨rfl, HS1.out⟩
theorem isort_nil (w : World) : Calls Yba.prog 15 #[.slice none 0 0, .int .i64 0, .int .i64 0, .func (.func 8) #[] #[]] w fun e w' => e = .returned (.tuple #[]) ∧ w' = w := by
  go_enter Yba.func15, Yba.ntmps15
  go_wp2_with fail
  refine wp_loop_rounds 1 ?_
  rw [rounds_succ]
  go_wp2
  go_end0
  exact ⟨rfl, rfl⟩
theorem pdq_nil (w : World) : Calls Yba.prog 12 #[.slice none 0 0, .int .i64 0, .int .i64 0, .int .i64 0, .func (.func 8) #[] #[]] w fun e w' => e = .returned (.tuple #[]) ∧ w' = w := by
  go_enter Yba.func12, Yba.ntmps12
  go_wp2_with fail
  refine wp_loop_rounds 1 ?_
  rw [rounds_succ]
  go_wp2_with (first | (go_at_call 15; refine (isort_nil _).mono ?_; rintro e w' ⟨rfl, rfl⟩))
  (try simp only [Exit.inBlock, Exit.then])
  refine bodyPost_ret (results_none rfl _ _ _) rfl ?_
  exact ⟨rfl, rfl⟩
theorem sortf_nil (w : World) : Calls Yba.prog 7 #[.slice none 0 0, .func (.func 8) #[] #[]] w fun e w' => e = .returned (.tuple #[]) ∧ w' = w := by
  have HL : Hid (∀ w, Calls Yba.prog 13 #[.int .u64 0] w fun e w' => e = .returned (.int .i64 0) ∧ w' = w) := ⟨fun w => len_any 0 w (by omega)⟩
  go_enter Yba.func7, Yba.ntmps7
  go_wp2_with (first
    | (go_at_call 13; refine (HL.out _).mono ?_; rintro e w' ⟨rfl, rfl⟩)
    | (go_at_call 12; refine (pdq_nil _).mono ?_; rintro e w' ⟨rfl, rfl⟩))
  go_end0
  exact ⟨rfl, rfl⟩
end Go.Proofs.Ybulkcgfi
