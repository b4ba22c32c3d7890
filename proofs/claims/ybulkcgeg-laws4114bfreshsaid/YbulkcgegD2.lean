import Derived.Test.YbulkcgegD1
import Derived.Deep.RegionHeld3
namespace Go.Proofs.Ybulkcgeg
open Go.RowKit
set_option linter.unusedVariables false
set_option linter.unusedSimpArgs false
def ltW (t u : Wt) : Bool := lessB t.due t.seq u.due u.seq
theorem cmp_less (a b c d : Int) : (decide (orI (cmp3 a c) (cmp3 b d) < 0)) = lessB a b c d := by
  unfold orI cmp3 lessB
  by_cases h1 : a < c
  · simp [h1]
  · by_cases h2 : c < a
    · have : ¬ a = c := by omega
      simp [h1, h2, this]
    · have : a = c := by omega
      subst this
      by_cases h3 : b < d
      · simp [h3]
      · by_cases h4 : d < b <;> simp [h3, h4]
set_option maxRecDepth 100000 in
set_option maxHeartbeats 1000000 in
theorem compare_any (t u : Wt) (w : World) :
    Calls Yba.prog 23 #[.agg #[.string t.id, .int .i64 t.due, .int .u64 t.seq, .slice t.pa t.pn t.pn, .slice t.ma t.mn t.mn], .agg #[.string u.id, .int .i64 u.due, .int .u64 u.seq, .slice u.pa u.pn u.pn, .slice u.ma u.mn u.mn]] w fun e w' => e = .returned (.int .i64 (orI (cmp3 t.due u.due) (cmp3 t.seq u.seq))) ∧ Below w.heap.size w w' := by
  go_enter Yba.func23, Yba.ntmps23
  go_wp2
  go_region_held3 (fun w' => w'.cell? ⟨w.heap.size, 1, none⟩ = some (.int .i64 t.due) ∧ w'.cell? ⟨w.heap.size, 2, none⟩ = some (.int .u64 t.seq) ∧ w'.cell? ⟨w.heap.size + 1, 1, none⟩ = some (.int .i64 u.due) ∧ w'.cell? ⟨w.heap.size + 1, 2, none⟩ = some (.int .u64 u.seq)) (simp +arith [World.cell?_alloc_past, World.cell?_alloc_at])
    (first | (go_at_call 26; refine (cmpI_any _ _ _).mono ?_; rintro e w' ⟨rfl, rfl⟩) | (go_at_call 27; refine (cmpU_any _ _ _).mono ?_; rintro e w' ⟨rfl, rfl⟩) | (go_at_call 25; refine (or_any (w.heap.size + 1 + 1) (cmp3 t.due u.due) (cmp3 t.seq u.seq) _ (by simp [World.cell?_alloc_at]) (by simp [World.cell?_alloc_at])).mono ?_; rintro e w' ⟨rfl, rfl⟩))
  all_goals go_wp2
  go_ret
  exact ⟨rfl, by repeat (first | exact Below.refl _ _ | refine Below.drew ?_ | refine Below.alloc ?_ (by simp +arith) _)⟩
set_option maxRecDepth 100000 in
set_option maxHeartbeats 1000000 in
theorem before_any (t u : Wt) (w : World) :
    Calls Yba.prog 19 #[.agg #[.string t.id, .int .i64 t.due, .int .u64 t.seq, .slice t.pa t.pn t.pn, .slice t.ma t.mn t.mn], .agg #[.string u.id, .int .i64 u.due, .int .u64 u.seq, .slice u.pa u.pn u.pn, .slice u.ma u.mn u.mn]] w fun e w' => e = .returned (.bool (ltW t u)) ∧ Below w.heap.size w w' := by
  have HC := hide (cmp_less t.due t.seq u.due u.seq)
  go_enter Yba.func19, Yba.ntmps19
  go_wp2_with (go_at_call 23; refine (compare_any t u _).mono ?_; rintro e w' ⟨rfl, hb⟩)
  all_goals (go_ret; exact ⟨by unfold ltW; rw [← HC.out]; simp [*], Below.trans (by repeat (first | exact Below.refl _ _ | refine Below.alloc ?_ (by simp +arith) _)) (hb.mono (by simp +arith))⟩)
set_option maxRecDepth 100000 in
set_option maxHeartbeats 1000000 in
theorem wcost_any (t : Wt) (i : Nat) (it : Item) (w : World) (ok : it.ok) (h : t.isOf i it) :
    Calls Yba.prog 20 #[.agg #[.string t.id, .int .i64 t.due, .int .u64 t.seq, .slice t.pa t.pn t.pn, .slice t.ma t.mn t.mn]] w fun e w' => e = .returned (.int .i64 (costOf it)) ∧ w' = w.alloc (.cells #[.string t.id, .int .i64 t.due, .int .u64 t.seq, .slice t.pa t.pn t.pn, .slice t.ma t.mn t.mn] 55) := by
  obtain ⟨o1, o2, o3, o4⟩ := ok
  have h4 := h.pn
  have h5 := h.mn
  have h6 : (t.id.size : Int) = 3 := by rw [h.id]; rfl
  have hc : 160 + (t.id.size : Int) + (t.mn : Int) + 24 * (t.pn : Int) = costOf it := by unfold costOf; omega
  have HC := hide hc
  have b1 : (t.pn : Int) ≤ 3 := by omega
  have b2 : (t.mn : Int) ≤ 16 := by omega
  have b3 : (t.id.size : Int) ≤ 3 := by omega
  clear h4 h5 h6 hc
  go_enter Yba.func20, Yba.ntmps20
  go_wp2
  go_ret
  exact ⟨by rw [HC.out]; rfl, rfl⟩
end Go.Proofs.Ybulkcgeg
