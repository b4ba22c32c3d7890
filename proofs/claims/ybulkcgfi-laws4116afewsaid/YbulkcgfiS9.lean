import Derived.Test.YbulkcgfiS8
import Derived.Test.YbulkcgfiB1
import Derived.Sort.LotD1
import Derived.Sort.LotD5
import Derived.Sort.Row
import Derived.Laws.Bits64
import Derived.Laws.Bits64b
namespace Go.Proofs.Ybulkcgfi
open Go.RowKit
set_option linter.unusedVariables false
set_option linter.unusedSimpArgs false
set_option maxRecDepth 100000
theorem wrap_two_pow' (k : Nat) (hk : k ≤ 62) : IntKind.u64.wrap ((2 : Int) ^ k) = ((1 <<< k : Nat) : Int) := by
  have h : (2 : Nat) ^ k ≤ 2 ^ 62 := Nat.pow_le_pow_right (by decide) hk
  rw [IntKind.wrap_u64, Nat.one_shiftLeft, show ((2 : Int) ^ k) = ((2 ^ k : Nat) : Int) by push_cast; rfl]
  generalize (2 : Nat) ^ k = p at h
  omega
theorem npow_any (n : Nat) (hn : n ≤ 1024) (w : World) :
    Calls Yba.prog 27 #[.int .i64 n] w fun e w' => e = .returned (.int .u64 ((1 <<< Sort.bitsLen n : Nat) : Int)) ∧ w' = w := by
  have H := fun w => len_any n w hn
  have hk : Sort.bitsLen n ≤ 62 := (Sort.bitsLen_le_iff n 62).2 (by omega)
  have hp := wrap_two_pow' (Sort.bitsLen n) hk
  go_enter Yba.func27, Yba.ntmps27
  go_wp2_with (first | (go_at_call 13; refine (H _).mono ?_; rintro e w' ⟨rfl, rfl⟩))
  go_ret
  exact ⟨rfl, rfl⟩
theorem setCell_setCell' (w : World) (blk off : Nat) (v v' : Value) : (w.setCell ⟨blk, off, none⟩ v).setCell ⟨blk, off, none⟩ v' = w.setCell ⟨blk, off, none⟩ v' := by
  rw [Sort.setCell_eq, Sort.setCell_eq, Sort.mapBlock_mapBlock, Sort.setCell_eq]
  congr 1
  funext c
  simp
open Go.Sort in
theorem xor_any (rb ro X : Nat) (hX : X < 18446744073709551616) (w : World) (hc : w.cell? ⟨rb, ro, none⟩ = some (.int .u64 X)) (hf : w.frozen? ⟨rb, ro, none⟩ = false) :
    Calls Yba.prog 28 #[.pointer (some ⟨rb, ro, none⟩)] w fun e w' => e = .returned (.int .u64 (xorNextN X : Nat)) ∧ w' = (w.setCell ⟨rb, ro, none⟩ (.int .u64 (xorNextN X : Nat))).drewN 3 := by
  obtain ⟨A, hA⟩ : ∃ A : Nat, A = X ^^^ (X * 8192 % 18446744073709551616) := ⟨_, rfl⟩
  obtain ⟨B, hB⟩ : ∃ B : Nat, B = A ^^^ (A / 128) := ⟨_, rfl⟩
  obtain ⟨C, hC⟩ : ∃ C : Nat, C = B ^^^ (B * 131072 % 18446744073709551616) := ⟨_, rfl⟩
  have lA : A < 18446744073709551616 := by rw [hA]; exact Nat.xor_lt_two_pow (n := 64) (by omega) (by omega)
  have lB : B < 18446744073709551616 := by rw [hB]; exact Nat.xor_lt_two_pow (n := 64) (by omega) (by omega)
  have e1 : bits .xor .u64 (X : Int) (IntKind.u64.wrap ((X : Int) * 8192)) = (A : Int) := by
    rw [IntKind.wrap_u64, show ((X : Int) * 8192 % 18446744073709551616) = ((X * 8192 % 18446744073709551616 : Nat) : Int) by omega, bits_xor_u64_nat _ _ hX (by omega), hA]
  have e2 : bits .xor .u64 (A : Int) ((A : Int) / 128) = (B : Int) := by
    rw [show ((A : Int) / 128) = ((A / 128 : Nat) : Int) by omega, bits_xor_u64_nat _ _ lA (by omega), hB]
  have e3 : bits .xor .u64 (B : Int) (IntKind.u64.wrap ((B : Int) * 131072)) = (C : Int) := by
    rw [IntKind.wrap_u64, show ((B : Int) * 131072 % 18446744073709551616) = ((B * 131072 % 18446744073709551616 : Nat) : Int) by omega, bits_xor_u64_nat _ _ lB (by omega), hC]
  have hv : xorNextN X = C := by unfold xorNextN; simp only []; rw [← hA, ← hB, ← hC]
  rw [hv]
  clear hA hB hC hv
  have hss : ∀ v v', (w.setCell ⟨rb, ro, none⟩ v).setCell ⟨rb, ro, none⟩ v' = w.setCell ⟨rb, ro, none⟩ v' := setCell_setCell' w rb ro
  go_enter Yba.func28, Yba.ntmps28
  go_wp2
  go_region
  all_goals go_wp2
  all_goals go_region
  all_goals go_wp2
  all_goals go_region
  all_goals go_wp2
  go_ret
  exact ⟨rfl, rfl⟩
end Go.Proofs.Ybulkcgfi
