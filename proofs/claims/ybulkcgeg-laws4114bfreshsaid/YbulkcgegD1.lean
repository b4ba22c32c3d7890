import Derived.Test.YbulkcgegA8
namespace Go.Proofs.Ybulkcgeg
open Go.RowKit
set_option linter.unusedVariables false
set_option linter.unusedSimpArgs false
def costOf (it : Item) : Int := 163 + it.mem % 16 + 24 * (it.parts % 3)
def lessB (d1 s1 d2 s2 : Int) : Bool := decide (d1 < d2) || (d1 == d2 && decide (s1 < s2))
def orI (x y : Int) : Int := if x = 0 then y else x
def cmp3 (a b : Int) : Int := if a < b then -1 else if b < a then 1 else 0
set_option maxRecDepth 100000 in
set_option maxHeartbeats 400000 in
theorem cost_any (due seq mem parts : Int) (w : World) (m0 : 0 ≤ mem) (m1 : mem ≤ 255) (p0 : 0 ≤ parts) (p1 : parts ≤ 255) :
    Calls Yba.prog 7 #[.agg #[.int .i64 due, .int .u64 seq, .int .u8 mem, .int .u8 parts]] w fun e w' => e = .returned (.int .i64 (costOf ⟨due, seq, mem, parts⟩)) ∧ w' = w.alloc (.cells #[.int .i64 due, .int .u64 seq, .int .u8 mem, .int .u8 parts] 33) := by
  go_enter Yba.func7, Yba.ntmps7
  go_wp2
  go_ret
  exact ⟨rfl, rfl⟩
set_option maxRecDepth 100000 in
set_option maxHeartbeats 400000 in
theorem less_any (d1 s1 d2 s2 : Int) (w : World) :
    Calls Yba.prog 8 #[.int .i64 d1, .int .u64 s1, .int .i64 d2, .int .u64 s2] w fun e w' => e = .returned (.bool (lessB d1 s1 d2 s2)) ∧ w' = w := by
  unfold lessB
  by_cases h1 : d1 < d2
  · go_enter Yba.func8, Yba.ntmps8
    go_wp2
    go_ret
    exact ⟨by simp [h1], rfl⟩
  · by_cases h2 : d1 = d2
    · have h1' : decide (d1 < d2) = false := by simpa using h1
      subst h2
      go_enter Yba.func8, Yba.ntmps8
      go_wp2
      go_ret
      exact ⟨by simp [h1], rfl⟩
    · have h1' : decide (d1 < d2) = false := by simpa using h1
      have h2' : (d1 == d2) = false := by simpa using h2
      clear h2 h1
      go_enter Yba.func8, Yba.ntmps8
      go_wp2
      go_ret
      exact ⟨by simp [h1', h2'], rfl⟩
set_option maxRecDepth 100000 in
set_option maxHeartbeats 400000 in
theorem cmpI_any (a b : Int) (w : World) :
    Calls Yba.prog 26 #[.int .i64 a, .int .i64 b] w fun e w' => e = .returned (.int .i64 (cmp3 a b)) ∧ w' = w := by
  unfold cmp3
  by_cases h1 : a < b
  · go_enter Yba.func26, Yba.ntmps26
    go_wp2
    go_ret
    exact ⟨by simp [h1], rfl⟩
  · by_cases h2 : b < a
    · go_enter Yba.func26, Yba.ntmps26
      go_wp2
      go_ret
      exact ⟨by simp [h1, h2], rfl⟩
    · go_enter Yba.func26, Yba.ntmps26
      go_wp2
      go_ret
      exact ⟨by simp [h1, h2], rfl⟩
set_option maxRecDepth 100000 in
set_option maxHeartbeats 400000 in
theorem cmpU_any (a b : Int) (w : World) :
    Calls Yba.prog 27 #[.int .u64 a, .int .u64 b] w fun e w' => e = .returned (.int .i64 (cmp3 a b)) ∧ w' = w := by
  unfold cmp3
  by_cases h1 : a < b
  · go_enter Yba.func27, Yba.ntmps27
    go_wp2
    go_ret
    exact ⟨by simp [h1], rfl⟩
  · by_cases h2 : b < a
    · go_enter Yba.func27, Yba.ntmps27
      go_wp2
      go_ret
      exact ⟨by simp [h1, h2], rfl⟩
    · go_enter Yba.func27, Yba.ntmps27
      go_wp2
      go_ret
      exact ⟨by simp [h1, h2], rfl⟩
set_option maxRecDepth 100000 in
set_option maxHeartbeats 400000 in
theorem or_any (b : Nat) (x y : Int) (w : World) (h0 : w.cell? ⟨b, 0, none⟩ = some (.int .i64 x)) (h1 : w.cell? ⟨b, 1, none⟩ = some (.int .i64 y)) :
    Calls Yba.prog 25 #[.slice (some ⟨b, 0, none⟩) 2 2] w fun e w' => e = .returned (.int .i64 (orI x y)) ∧ w' = w := by
  unfold orI
  by_cases hx : x = 0
  · subst hx
    by_cases hy : y = 0
    · subst hy
      go_enter Yba.func25, Yba.ntmps25
      go_wp2
      refine wp_loop_rounds 3 ?_; rw [rounds_succ]
      go_wp2
      rw [rounds_succ]
      go_wp2
      rw [rounds_succ]
      go_wp2
      go_ret
      exact ⟨rfl, rfl⟩
    · have hy' : (y != 0) = true := by simpa using hy
      clear hy
      go_enter Yba.func25, Yba.ntmps25
      go_wp2
      refine wp_loop_rounds 2 ?_; rw [rounds_succ]
      go_wp2
      rw [rounds_succ]
      go_wp2
      go_ret
      exact ⟨rfl, rfl⟩
  · have hx' : (x != 0) = true := by simpa using hx
    go_enter Yba.func25, Yba.ntmps25
    go_wp2
    refine wp_loop_rounds 1 ?_; rw [rounds_succ]
    go_wp2
    go_ret
    exact ⟨by simp [hx], rfl⟩
end Go.Proofs.Ybulkcgeg
