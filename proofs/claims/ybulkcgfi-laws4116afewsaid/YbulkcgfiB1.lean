import Derived.Test.YbulkcgfiProg
import Derived.Lib.Strings
import Derived.Lib.Slices
import Derived.Lib.Small
import Derived.Lib.Walk
import Derived.Lib.BitFns
import Derived.Sort.LotD1
namespace Go.Proofs.Ybulkcgfi
set_option linter.unusedVariables false
set_option linter.unusedSimpArgs false
set_option maxRecDepth 100000
theorem bitLen_bits (x : Nat) (h : x < 2 ^ 64) : Lib.bitLen x = Sort.bitsLen x := by
  induction x using Nat.strongRecOn with
  | _ x ih =>
    by_cases h0 : x = 0
    · subst h0; rfl
    · rw [Lib.bitLen_half x h0 h, ih (x / 2) (by omega) (by omega)]
      unfold Sort.bitsLen
      rw [if_neg h0, Nat.log2_def x]
      by_cases h2 : 2 ≤ x
      · rw [if_pos h2, if_neg (by omega)]; omega
      · obtain rfl : x = 1 := by omega
        simp
set_option maxHeartbeats 4000000 in
theorem len64_any (x : Int) (w : World) (h0 : 0 ≤ x) (h1 : x ≤ 1024) :
    Calls Yba.prog 24 #[.int .u64 x] w fun e w' => e = .returned (.int .i64 (Lib.bitLen x.toNat)) ∧ w' = w := by
  have n1 : ¬ (4294967296 : Int) ≤ x := by omega
  have n2 : ¬ (65536 : Int) ≤ x := by omega
  go_enter Yba.func24, Yba.ntmps24
  go_wp2
  all_goals (go_ret; refine ⟨congrArg Ending.returned (congrArg (Value.int IntKind.i64) ?_), rfl⟩)
  all_goals first
    | (rw [Lib.len8_of (x / 256 % 256) (by omega) (by omega)]
       have e : (x / 256 % 256).toNat = x.toNat / 256 := by omega
       have l := Lib.bitLen_le8' (x / 256 % 256) (by omega) (by omega)
       have s := Lib.bitLen_shift8 x.toNat (by omega) (by omega)
       rw [e] at l ⊢
       omega)
    | (rw [Lib.len8_of (x % 256) (by omega) (by omega)]
       have e : (x % 256).toNat = x.toNat := by omega
       have l := Lib.bitLen_le8' (x % 256) (by omega) (by omega)
       rw [e] at l ⊢
       omega)
theorem len_any (n : Nat) (w : World) (h1 : n ≤ 1024) :
    Calls Yba.prog 13 #[.int .u64 n] w fun e w' => e = .returned (.int .i64 (Sort.bitsLen n : Nat)) ∧ w' = w := by
  have H := fun w => len64_any (n : Int) w (by omega) (by omega)
  rw [Int.toNat_natCast, bitLen_bits _ (by omega)] at H
  go_enter Yba.func13, Yba.ntmps13
  go_wp2_with (go_at_call 24; refine (H _).mono ?_; rintro e w' ⟨rfl, rfl⟩)
  go_ret
  exact ⟨rfl, rfl⟩
end Go.Proofs.Ybulkcgfi
