import Derived.Test.YbulkcggyDoorK9
namespace Go.Proofs.YbulkcggyDoor
open Go.RowKit
set_option linter.unusedVariables false
set_option linter.unusedSectionVars false
set_option linter.unusedSimpArgs false
set_option maxRecDepth 100000
set_option maxHeartbeats 1000000 in
theorem len64_any (k : Nat) (w : World) (hk : k ≤ 3) : Calls Ybad.prog 34 #[.int .u64 k] w fun e w' => (∃ c : Int, e = .returned (.int .i64 c)) ∧ w' = w := by
  match k, hk with
  | 0, _ =>
    go_enter Ybad.func34, Ybad.ntmps34
    go_wp2
    go_ret
    exact ⟨⟨_, rfl⟩, rfl⟩
  | 1, _ =>
    go_enter Ybad.func34, Ybad.ntmps34
    go_wp2
    go_ret
    exact ⟨⟨_, rfl⟩, rfl⟩
  | 2, _ =>
    go_enter Ybad.func34, Ybad.ntmps34
    go_wp2
    go_ret
    exact ⟨⟨_, rfl⟩, rfl⟩
  | 3, _ =>
    go_enter Ybad.func34, Ybad.ntmps34
    go_wp2
    go_ret
    exact ⟨⟨_, rfl⟩, rfl⟩
theorem len_any (k : Nat) (w : World) (hk : k ≤ 3) : Calls Ybad.prog 24 #[.int .u64 k] w fun e w' => (∃ c : Int, e = .returned (.int .i64 c)) ∧ w' = w := by
  have HL := hide (fun w => len64_any k w hk)
  go_enter Ybad.func24, Ybad.ntmps24
  go_wp2_with (first | (go_at_call 34; refine (HL.out _).mono ?_; rintro e w1 ⟨⟨c, rfl⟩, rfl⟩))
  go_ret
  exact ⟨⟨_, rfl⟩, rfl⟩
theorem pdq_any (g k cap : Nat) (lim : Int) (sv : Nat → Value) (p0 : Nat → Nat) (w : World) (hk : k ≤ 3) (h0 : SR w g k sv p0 p0 w) (hch : ∀ x, x < k → Chn w g sv (p0 x)) :
    Calls Ybad.prog 23 #[.slice (some ⟨g, 0, none⟩) k cap, .int .i64 0, .int .i64 k, .int .i64 lim, .func (.func 17) #[] #[]] w fun e w' => e = .returned (.tuple #[]) ∧ ∃ p, SR w g k sv p0 p w' ∧ Srt p k := by
  have HI := hide (isort_any g k cap sv p0 w (by omega) h0 hch)
  clear h0 hch
  have i1 : (k : Int) ≤ 12 := by omega
  have i2 : k ≤ 12 := by omega
  have i3 := wrap_in (k : Int) (by omega) (by omega)
  go_enter Ybad.func23, Ybad.ntmps23
  go_wp2
  refine wp_loop_rounds 1 ?_; rw [rounds_succ]
  go_wp2_with (first | (go_at_call 25; refine HI.out.mono ?_; rintro e w1 ⟨rfl, hp⟩; have HP := hide hp; clear hp))
  exact bodyPost_ret (results_none rfl _ _ _) rfl ⟨rfl, HP.out⟩
theorem sort_any (g k cap : Nat) (sv : Nat → Value) (p0 : Nat → Nat) (w : World) (hk : k ≤ 3) (h0 : SR w g k sv p0 p0 w) (hch : ∀ x, x < k → Chn w g sv (p0 x)) :
    Calls Ybad.prog 16 #[.slice (some ⟨g, 0, none⟩) k cap, .func (.func 17) #[] #[]] w fun e w' => e = .returned (.tuple #[]) ∧ ∃ p, SR w g k sv p0 p w' ∧ Srt p k := by
  have HI := hide (fun lim => pdq_any g k cap lim sv p0 w hk h0 hch)
  have HL := hide (fun w => len_any k w hk)
  clear h0 hch
  have i3 : IntKind.u64.wrap (k : Int) = k := by simp [IntKind.wrap, IntKind.signed, IntKind.bits]; omega
  go_enter Ybad.func16, Ybad.ntmps16
  go_wp2_with (first | (go_at_call 24; refine (HL.out _).mono ?_; rintro e w1 ⟨⟨c, rfl⟩, rfl⟩) | (go_at_call 23; refine (HI.out _).mono ?_; rintro e w1 ⟨rfl, hp⟩; have HP := hide hp; clear hp))
  go_end0
  exact ⟨rfl, HP.out⟩
end Go.Proofs.YbulkcggyDoor
