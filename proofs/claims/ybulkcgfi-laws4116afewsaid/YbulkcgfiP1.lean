import Derived.Sort.Walk13a
import Derived.Sort.AssemblyPlain
namespace Go.Proofs.Ybulkcgfi
set_option linter.unusedVariables false
/-- One round of pdqsort, its values under names of their own. -/
theorem round_plain {d : Array (List UInt8)} {a b lim : Nat} {wb wp : Bool} (h12 : ¬ b - a ≤ 12) (h0 : ¬ lim = 0) (hb : b ≤ d.size) (hB : Sort.Below Sort.ltStr a b d) :
    ∃ (d1 : Array (List UInt8)) (lm cp : Nat) (ch : Sort.Hint) (d2 : Array (List UInt8)) (pv : Nat) (hint : Sort.Hint) (d3 : Array (List UInt8)) (pb : Bool),
      (wb = false → d1 = Sort.breakPatterns d a b ∧ lm = lim - 1) ∧ (wb = true → d1 = d ∧ lm = lim) ∧ d1.size = d.size ∧
      Sort.choosePivot Sort.ltStr d1 a b = (cp, ch) ∧ a ≤ cp ∧ cp < b ∧
      (ch = .decreasing → d2 = Sort.reverseRange d1 a b ∧ pv = (b - 1) - (cp - a) ∧ hint = .increasing) ∧ (ch ≠ .decreasing → d2 = d1 ∧ pv = cp ∧ hint = ch) ∧ d2.size = d.size ∧ a ≤ pv ∧ pv < b ∧
      ((wb && wp && decide (hint = .increasing)) = true → Sort.partialInsertionSort Sort.ltStr d2 a b = (d3, pb)) ∧ ((wb && wp && decide (hint = .increasing)) = false → d3 = d2 ∧ pb = false) ∧ d3.size = d.size ∧ lm ≤ lim ∧
      (pb = true → Sort.pdq Sort.ltStr d a b lim wb wp = d3) ∧
      (pb = false → (decide (a > 0) && !Sort.ltStr d3[a - 1]! d3[pv]!) = true → ∃ mid d4, Sort.partitionEqual Sort.ltStr d3 a b pv = (mid, d4) ∧ a < mid ∧ mid ≤ b ∧ d4.size = d.size ∧ Sort.Below Sort.ltStr mid b d4 ∧ Sort.pdq Sort.ltStr d a b lim wb wp = Sort.pdq Sort.ltStr d4 mid b lm wb wp) ∧
      (pb = false → (decide (a > 0) && !Sort.ltStr d3[a - 1]! d3[pv]!) = false → ∃ mid ap d4, Sort.partition Sort.ltStr d3 a b pv = (mid, ap, d4) ∧ a ≤ mid ∧ mid < b ∧ d4.size = d.size ∧ Sort.Below Sort.ltStr a mid d4 ∧ Sort.Below Sort.ltStr (mid + 1) b d4 ∧
        (mid - a < b - mid → ∃ d5, d5 = Sort.pdq Sort.ltStr d4 a mid lm true true ∧ d5.size = d.size ∧ Sort.Below Sort.ltStr (mid + 1) b d5 ∧ Sort.pdq Sort.ltStr d a b lim wb wp = Sort.pdq Sort.ltStr d5 (mid + 1) b lm (decide (mid - a ≥ (b - a) / 8)) ap) ∧
        (¬ mid - a < b - mid → ∃ d5, d5 = Sort.pdq Sort.ltStr d4 (mid + 1) b lm true true ∧ d5.size = d.size ∧ Sort.Below Sort.ltStr a mid d5 ∧ Sort.pdq Sort.ltStr d a b lim wb wp = Sort.pdq Sort.ltStr d5 a mid lm (decide (b - mid ≥ (b - a) / 8)) ap)) := by
  have swo : Sort.SWO Sort.ltStr := Sort.swo_ltStr
  obtain ⟨s1, B1, hc1, s2, B2, hpv, s3, B3⟩ := Sort.rd_facts (limit := lim) (wb := wb) (wp := wp) swo Sort.partialInsertionSort_holds Sort.reverseRange_holds (show a < b by omega) hb hB
  have e1 := Sort.rd_lim_le (lt := Sort.ltStr) (d := d) (a := a) (b := b) (limit := lim) (wb := wb) (wp := wp)
  have e2 := Sort.pdq_done (lt := Sort.ltStr) (d := d) (a := a) (b := b) (limit := lim) (wb := wb) (wp := wp) h12 h0
  have e3 := Sort.pdq_eq (lt := Sort.ltStr) (d := d) (a := a) (b := b) (limit := lim) (wb := wb) (wp := wp) h12 h0
  have e4 := Sort.pdq_left (lt := Sort.ltStr) (d := d) (a := a) (b := b) (limit := lim) (wb := wb) (wp := wp) h12 h0
  have e5 := Sort.pdq_right (lt := Sort.ltStr) (d := d) (a := a) (b := b) (limit := lim) (wb := wb) (wp := wp) h12 h0
  have f1 : wb = false → (Sort.rd Sort.ltStr d a b lim wb wp).d1 = Sort.breakPatterns d a b ∧ (Sort.rd Sort.ltStr d a b lim wb wp).lim = lim - 1 := fun h => by subst h; exact Sort.rd_false
  have f2 : wb = true → (Sort.rd Sort.ltStr d a b lim wb wp).d1 = d ∧ (Sort.rd Sort.ltStr d a b lim wb wp).lim = lim := fun h => by subst h; exact Sort.rd_true
  have f3 := Sort.rd_c (lt := Sort.ltStr) (d := d) (a := a) (b := b) (limit := lim) (wb := wb) (wp := wp)
  have f4 := Sort.rd_dec (lt := Sort.ltStr) (d := d) (a := a) (b := b) (limit := lim) (wb := wb) (wp := wp)
  have f5 := Sort.rd_not (lt := Sort.ltStr) (d := d) (a := a) (b := b) (limit := lim) (wb := wb) (wp := wp)
  have f6 := Sort.rd_pi_yes (lt := Sort.ltStr) (d := d) (a := a) (b := b) (limit := lim) (wb := wb) (wp := wp)
  have f7 := Sort.rd_pi_no (lt := Sort.ltStr) (d := d) (a := a) (b := b) (limit := lim) (wb := wb) (wp := wp)
  generalize Sort.rd Sort.ltStr d a b lim wb wp = r at *
  obtain ⟨d1, lm, ⟨cp, ch⟩, d2, pv, hint, ⟨d3, pb⟩⟩ := r
  simp only at *
  refine ⟨d1, lm, cp, ch, d2, pv, hint, d3, pb, f1, f2, s1, f3.symm, hc1.1, hc1.2, f4, f5, s2, hpv.1, hpv.2, fun h => (f6 h).symm, fun h => ?_, s3, e1, e2, fun hp h => ?_, fun hp h => ?_⟩
  · have := f7 h
    injection this with h1 h2
    exact ⟨h1, h2⟩
  · obtain ⟨mid, d4, hx⟩ : ∃ mid d4, Sort.partitionEqual Sort.ltStr d3 a b pv = (mid, d4) := ⟨_, _, rfl⟩
    have h' := h
    simp only [Bool.and_eq_true, decide_eq_true_eq, Bool.not_eq_true'] at h'
    obtain ⟨r1, r2, r3, r4, _⟩ := Sort.round_eq swo (Sort.partitionEqual_holds Sort.ltStr) h'.1 hpv.1 hpv.2 (show b ≤ d3.size by omega) B3 h'.2 hx
    have := e3 hp h (by rw [hx]; exact ⟨r1, r2⟩)
    rw [hx] at this
    exact ⟨mid, d4, hx, r1, r2, r3.trans s3, r4, this⟩
  · obtain ⟨mid, ap, d4, hx⟩ : ∃ mid ap d4, Sort.partition Sort.ltStr d3 a b pv = (mid, ap, d4) := ⟨(Sort.partition Sort.ltStr d3 a b pv).1, (Sort.partition Sort.ltStr d3 a b pv).2.1, (Sort.partition Sort.ltStr d3 a b pv).2.2, rfl⟩
    obtain ⟨r1, r2, r3, r4, r5, r6, r7⟩ := Sort.round_part swo (Sort.partition_holds Sort.ltStr) hpv.1 hpv.2 (show b ≤ d3.size by omega) B3 hx
    refine ⟨mid, ap, d4, hx, r1, r2, r3.trans s3, r4, r5, fun h4 => ?_, fun h4 => ?_⟩
    · obtain ⟨pL, sL⟩ := Sort.pdq_sorts Sort.ltStr swo d4 a mid lm true true (by omega) (by omega) r4
      have := e4 hp h (by rw [hx]; exact ⟨r1, r2⟩) (by rw [hx]; exact h4)
      rw [hx] at this
      exact ⟨_, rfl, by rw [pL.1, r3, s3], (r6 _ pL sL).1, this⟩
    · obtain ⟨pL, sL⟩ := Sort.pdq_sorts Sort.ltStr swo d4 (mid + 1) b lm true true (by omega) (by omega) r5
      have := e5 hp h (by rw [hx]; exact ⟨r1, r2⟩) (by rw [hx]; exact h4)
      rw [hx] at this
      exact ⟨_, rfl, by rw [pL.1, r3, s3], (r7 _ pL sL).1, this⟩
end Go.Proofs.Ybulkcgfi
