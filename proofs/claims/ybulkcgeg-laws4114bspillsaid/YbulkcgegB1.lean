import Derived.Test.YbulkcgegA8
namespace Go.Proofs.Ybulkcgeg
open Go.RowKit
set_option linter.unusedVariables false
set_option linter.unusedSimpArgs false
theorem below_of {w w1 W w2 : World} (hb : Below w.heap.size w w1) (h1 : Below w1.heap.size w1 W) (h2 : Below W.heap.size W w2) : Below w.heap.size w w2 :=
  hb.trans ((h1.mono hb.size).trans (h2.mono (Nat.le_trans hb.size h1.size)))
theorem ne_succ (sa : Int) (h0 : 0 ≤ sa) (h1 : sa ≤ 18446744073709551615) : (IntKind.u64.wrap (sa + 1) == sa) = false := by
  rw [beq_eq_false_iff_ne, IntKind.wrap_u64]; omega
set_option maxRecDepth 100000 in
set_option maxHeartbeats 400000 in
theorem spill_big (a : Option Addr) (len cap : Nat) (hd pk sa sb ex : Int) (we same : Bool) (w : World) (h : 4096 < len) :
    Calls Yba.prog 4 #[.slice a len cap, .int .u16 hd, .int .u16 pk, .bool we, .int .u64 sa, .bool same, .int .i64 sb, .int .i64 ex] w fun e w' => e = .returned (.bool true) ∧ Below w.heap.size w w' := by
  go_enter Yba.func4, Yba.ntmps4
  go_wp2
  go_ret
  exact ⟨rfl, Below.refl _ _⟩
theorem eqnil28 (w : World) (r : Option Nat) : (binOp .eql 28 (.map r) (.map none)).run Yba.prog w = .ok (.bool r.isNone) w := run_eql_map_nil w 28 9 29 r Yba.underlying28
theorem eqnil24 (w : World) (a : Option Addr) (n c : Nat) : (binOp .eql 24 (.slice a n c) (.slice none 0 0)).run Yba.prog w = .ok (.bool a.isNone) w := Lib.run_eql_slice_nil w 24 67 a n c 0 0 Yba.underlying24
theorem eqnil36 (w : World) (a : Option Addr) (n c : Nat) : (binOp .eql 36 (.slice a n c) (.slice none 0 0)).run Yba.prog w = .ok (.bool a.isNone) w := Lib.run_eql_slice_nil w 36 3 a n c 0 0 Yba.underlying36
theorem hd_nat (hd : Int) (len : Nat) (h : 0 ≤ hd) : ∃ hdn : Nat, hd % ((len : Int) + 1) = hdn ∧ hdn ≤ len := by
  have h1 := Int.emod_nonneg hd (show ((len : Int) + 1) ≠ 0 by omega)
  have h2 := Int.emod_lt_of_pos hd (show (0 : Int) < (len : Int) + 1 by omega)
  exact ⟨(hd % ((len : Int) + 1)).toNat, by omega, by omega⟩
theorem pk_nat (pk : Int) (len : Nat) (h : 0 ≤ pk) (hl : 0 < len) : ∃ ix : Nat, pk % (len : Int) = ix ∧ ix < len := by
  have h1 := Int.emod_nonneg pk (show (len : Int) ≠ 0 by omega)
  have h2 := Int.emod_lt_of_pos pk (show (0 : Int) < (len : Int) by omega)
  exact ⟨(pk % (len : Int)).toNat, by omega, by omega⟩
theorem below_of' {w w1 W w2 : World} {qb : Nat} (hb : Below w.heap.size w w1) (h1 : Below w1.heap.size w1 W) (h2 : Below qb W w2) (hq : w1.heap.size ≤ qb) : Below w.heap.size w w2 :=
  hb.trans ((h1.mono hb.size).trans (h2.mono (Nat.le_trans hb.size hq)))
end Go.Proofs.Ybulkcgeg
