import Derived.Test.YbulkcgfiS9
import Derived.Sort.LotD4
namespace Go.Proofs.Ybulkcgfi
open Go.RowKit
set_option linter.unusedVariables false
set_option linter.unusedSimpArgs false
set_option maxRecDepth 100000
def hcode : Sort.Hint → Int
  | .unknown => 0
  | .increasing => 1
  | .decreasing => 2
theorem SK.start {w : World} {g : Nat} {d : Array ID} (h : SR w g d w) (hg : g < w.heap.size) : SK w g w.heap.size d 0 (w.alloc (.cells #[.int .i64 0] 3)) := by
  have hb : Below w.heap.size w (w.alloc (.cells #[.int .i64 0] 3)) := (Below.refl _ _).alloc (Nat.le_refl _) _
  exact ⟨Fw.of_below hb, by rw [World.cell?_alloc_at _ _ _ _ rfl]; rfl, by rw [World.frozen?_alloc_at _ _ _ _ rfl], fun x hx j v hv => by rw [hb.cell (by exact hg)]; exact h.row x hx j v hv, h.ok⟩
theorem SK.back {w : World} {g : Nat} {d : Array ID} {k : Nat} {w' : World} (h : SK w g w.heap.size d k w') : Below w.heap.size w w' :=
  ⟨h.fw.os, h.fw.tape, h.fw.output, h.fw.size, fun t ht => h.fw.block t ht (by omega)⟩
theorem hint_of {d : Array ID} {a b : Nat} {r : Nat × Nat} (e : Sort.choosePivot Sort.ltStr d a b = (r.1, if r.2 = 0 then .increasing else if r.2 = 12 then .decreasing else .unknown)) :
    (r.2 = 0 → Sort.choosePivot Sort.ltStr d a b = (r.1, .increasing)) ∧ (r.2 = 12 → Sort.choosePivot Sort.ltStr d a b = (r.1, .decreasing)) ∧ (r.2 ≠ 0 → r.2 ≠ 12 → Sort.choosePivot Sort.ltStr d a b = (r.1, .unknown)) := by
  refine ⟨fun h => ?_, fun h => ?_, fun h h' => ?_⟩
  · rw [e, if_pos h]
  · rw [e, if_neg (by omega), if_pos h]
  · rw [e, if_neg h, if_neg h']
theorem pv_big {d : Array ID} {a b i j k : Nat} (hi : i = a + (b - a) / 4) (hj : j = a + (b - a) / 4 * 2) (hk : k = a + (b - a) / 4 * 3) (h50 : 50 ≤ b - a) (hb : b ≤ d.size) :
    ∃ r1 r2 r3 r4 : Nat × Nat, r1 = Sort.medianAdjacent Sort.ltStr d i 0 ∧ r2 = Sort.medianAdjacent Sort.ltStr d j r1.2 ∧ r3 = Sort.medianAdjacent Sort.ltStr d k r2.2 ∧ r4 = Sort.median Sort.ltStr d r1.1 r2.1 r3.1 r3.2 ∧
      Sort.choosePivot Sort.ltStr d a b = (r4.1, if r4.2 = 0 then .increasing else if r4.2 = 12 then .decreasing else .unknown) ∧ r1.1 < d.size ∧ r2.1 < d.size ∧ r3.1 < d.size ∧ r1.2 ≤ 3 ∧ r2.2 ≤ 6 ∧ r3.2 ≤ 9 := by
  refine ⟨_, _, _, _, rfl, rfl, rfl, rfl, ?_, ?_, ?_, ?_, ?_, ?_, ?_⟩
  · unfold Sort.choosePivot
    simp only
    rw [if_pos (by omega), if_pos h50, Nat.mul_one, ← hi, ← hj, ← hk]
  · rcases Sort.medianAdjacent_mem Sort.ltStr d i 0 with h | h | h <;> rw [h] <;> omega
  · rcases Sort.medianAdjacent_mem Sort.ltStr d j (Sort.medianAdjacent Sort.ltStr d i 0).2 with h | h | h <;> rw [h] <;> omega
  · rcases Sort.medianAdjacent_mem Sort.ltStr d k (Sort.medianAdjacent Sort.ltStr d j (Sort.medianAdjacent Sort.ltStr d i 0).2).2 with h | h | h <;> rw [h] <;> omega
  · exact Sort.medianAdjacent_count Sort.ltStr d i 0
  · have h1 := Sort.medianAdjacent_count Sort.ltStr d i 0
    have h2 := Sort.medianAdjacent_count Sort.ltStr d j (Sort.medianAdjacent Sort.ltStr d i 0).2
    omega
  · have h1 := Sort.medianAdjacent_count Sort.ltStr d i 0
    have h2 := Sort.medianAdjacent_count Sort.ltStr d j (Sort.medianAdjacent Sort.ltStr d i 0).2
    have h3 := Sort.medianAdjacent_count Sort.ltStr d k (Sort.medianAdjacent Sort.ltStr d j (Sort.medianAdjacent Sort.ltStr d i 0).2).2
    omega
theorem pv_small {d : Array ID} {a b i j k : Nat} (hi : i = a + (b - a) / 4) (hj : j = a + (b - a) / 4 * 2) (hk : k = a + (b - a) / 4 * 3) (h8 : 8 ≤ b - a) (h50 : ¬ 50 ≤ b - a) :
    ∃ r4 : Nat × Nat, r4 = Sort.median Sort.ltStr d i j k 0 ∧ Sort.choosePivot Sort.ltStr d a b = (r4.1, if r4.2 = 0 then .increasing else if r4.2 = 12 then .decreasing else .unknown) := by
  refine ⟨_, rfl, ?_⟩
  unfold Sort.choosePivot
  simp only
  rw [if_pos (by omega), if_neg h50, Nat.mul_one, ← hi, ← hj, ← hk]
set_option maxHeartbeats 8000000 in
theorem pivot_any (g cap a b : Nat) (d : Array ID) (w : World) (h0 : SR w g d w) (hg : g < w.heap.size) (hab : a + 13 ≤ b) (hb : b ≤ d.size) (hn : d.size ≤ 1024) :
    Calls Yba.prog 18 #[.slice (some ⟨g, 0, none⟩) d.size cap, .int .i64 a, .int .i64 b, .func (.func 8) #[] #[]] w fun e w' => e = .returned (.tuple #[.int .i64 (Sort.choosePivot Sort.ltStr d a b).1, .int .i64 (hcode (Sort.choosePivot Sort.ltStr d a b).2)]) ∧ Below w.heap.size w w' := by
  have HK := hide (SK.start h0 hg)
  obtain ⟨sb, hsb⟩ : ∃ sb, sb = w.heap.size := ⟨_, rfl⟩
  rw [← hsb] at HK
  have hne : g ≠ sb := by omega
  have HB : Hid (∀ k w', SK w g sb d k w' → Below w.heap.size w w') := ⟨by rw [hsb]; exact fun k w' h => h.back⟩
  have HSB := hide hsb
  clear h0
  obtain ⟨L, hL⟩ : ∃ L, L = b - a := ⟨_, rfl⟩
  obtain ⟨q, hq⟩ : ∃ q, q = L / 4 := ⟨_, rfl⟩
  obtain ⟨q2, hq2⟩ : ∃ q2, q2 = q * 2 := ⟨_, rfl⟩
  obtain ⟨q3, hq3⟩ : ∃ q3, q3 = q * 3 := ⟨_, rfl⟩
  obtain ⟨i, hi⟩ : ∃ i, i = a + q := ⟨_, rfl⟩
  obtain ⟨j, hj⟩ : ∃ j, j = a + q2 := ⟨_, rfl⟩
  obtain ⟨k, hk⟩ : ∃ k, k = a + q3 := ⟨_, rfl⟩
  have m1 : IntKind.i64.wrap ((b : Int) - (a : Int)) = L := by rw [wrap_in _ (by omega) (by omega)]; omega
  have m3 : (L : Int) / 4 = q := by omega
  have m4 : (L : Int).tdiv 4 = q := by rw [Int.tdiv_eq_ediv_of_nonneg (by omega)]; omega
  have m5 : IntKind.i64.wrap (q : Int) = q := wrap_in _ (by omega) (by omega)
  have m6 : IntKind.i64.wrap ((q : Int) * 2) = q2 := by rw [wrap_in _ (by omega) (by omega)]; omega
  have m7 : IntKind.i64.wrap ((q : Int) * 3) = q3 := by rw [wrap_in _ (by omega) (by omega)]; omega
  have m8 : IntKind.i64.wrap ((a : Int) + (q : Int)) = i := by rw [wrap_in _ (by omega) (by omega)]; omega
  have m9 : IntKind.i64.wrap ((a : Int) + (q2 : Int)) = j := by rw [wrap_in _ (by omega) (by omega)]; omega
  have m10 : IntKind.i64.wrap ((a : Int) + (q3 : Int)) = k := by rw [wrap_in _ (by omega) (by omega)]; omega
  have n8 : (8 : Int) ≤ L := by omega
  by_cases h50 : 50 ≤ L
  · have n50 : (50 : Int) ≤ L := by omega
    obtain ⟨r1, r2, r3, r4, hr1, hr2, hr3, hr4, he, f1, f2, f3, c1, c2, c3⟩ := pv_big (d := d) (a := a) (b := b) (i := i) (j := j) (k := k) (by rw [hi, hq, hL]) (by rw [hj, hq2, hq, hL]) (by rw [hk, hq3, hq, hL]) (by omega) hb
    have g1 : 0 < i ∧ i + 1 < d.size := by omega
    have g2 : 0 < j ∧ j + 1 < d.size := by omega
    have g3 : 0 < k ∧ k + 1 < d.size := by omega
    have HE := hide he
    have H1 := hide (fun w' h => medianAdj_any g sb cap i 0 d w w' h hne g1.1 g1.2 hn (Nat.zero_le _))
    have H2 := hide (fun w' h => medianAdj_any g sb cap j r1.2 d w w' h hne g2.1 g2.2 hn (Nat.le_trans c1 (by decide)))
    have H3 := hide (fun w' h => medianAdj_any g sb cap k r2.2 d w w' h hne g3.1 g3.2 hn (Nat.le_trans c2 (by decide)))
    have H4 := hide (fun w' h => median_any g sb cap r1.1 r2.1 r3.1 r3.2 d w w' h hne f1 f2 f3 hn (Nat.le_trans c3 (by decide)))
    rw [← hr1] at H1
    rw [← hr2] at H2
    rw [← hr3] at H3
    rw [← hr4] at H4
    clear hr1 hr2 hr3 hr4 c1 c2 c3 he f1 f2 f3 g1 g2 g3 hL hq hq2 hq3 hi hj hk hsb
    go_enter Yba.func18, Yba.ntmps18
    go_upto_region 8 with fail
    rw [← HSB.out]
    obtain ⟨V, hV⟩ : ∃ V, V = w.alloc (.cells #[.int .i64 0] 3) := ⟨_, rfl⟩
    rw [← hV] at HK ⊢
    clear hV
    go_upto_region 12 with (first
      | (go_at_call 29; with_reducible refine (H1.out _ HK.out).mono ?_; rintro e w1 ⟨rfl, hs1⟩; have HS1 := hide hs1; clear hs1)
      | (go_at_call 29; with_reducible refine (H2.out _ HS1.out).mono ?_; rintro e w2 ⟨rfl, hs2⟩; have HS2 := hide hs2; clear hs2)
      | (go_at_call 29; with_reducible refine (H3.out _ HS2.out).mono ?_; rintro e w3 ⟨rfl, hs3⟩; have HS3 := hide hs3; clear hs3)
      | (go_at_call 30; with_reducible refine (H4.out _ HS3.out).mono ?_; rintro e w4 ⟨rfl, hs4⟩; have HS4 := hide hs4; clear hs4))
    have HBB := hide (HB.out _ _ HS4.out)
    have hc := HS4.out.cell
    have HI := hide (hint_of HE.out)
    obtain ⟨p, s⟩ := r4
    simp only at hc
    by_cases s0 : s = 0
    · have z : (s : Int) = 0 := by omega
      have e := HI.out.1 s0
      have HF := hide e
      clear e
      go_wp2
      go_ret2
      rw [HF.out]
      exact ⟨rfl, HBB.out⟩
    · have z : ¬ (s : Int) = 0 := by omega
      by_cases s12 : s = 12
      · have z2 : (s : Int) = 12 := by omega
        have HF := hide (HI.out.2.1 s12)
        go_wp2
        go_ret2
        rw [HF.out]
        exact ⟨rfl, HBB.out⟩
      · have z2 : ¬ (s : Int) = 12 := by omega
        have HF := hide (HI.out.2.2 s0 s12)
        go_wp2
        go_ret2
        rw [HF.out]
        exact ⟨rfl, HBB.out⟩
  · have n50 : ¬ (50 : Int) ≤ L := by omega
    obtain ⟨r4, hr4, he⟩ := pv_small (d := d) (a := a) (b := b) (i := i) (j := j) (k := k) (by rw [hi, hq, hL]) (by rw [hj, hq2, hq, hL]) (by rw [hk, hq3, hq, hL]) (by omega) (by omega)
    have HE := hide he
    have H4 := hide (fun w' h => median_any g sb cap i j k 0 d w w' h hne (by omega) (by omega) (by omega) hn (Nat.zero_le _))
    rw [← hr4] at H4
    clear hr4 he hL hq hq2 hq3 hi hj hk hsb
    go_enter Yba.func18, Yba.ntmps18
    go_upto_region 11 with fail
    rw [← HSB.out]
    obtain ⟨V, hV⟩ : ∃ V, V = w.alloc (.cells #[.int .i64 0] 3) := ⟨_, rfl⟩
    rw [← hV] at HK ⊢
    clear hV
    go_upto_region 12 with (first
      | (go_at_call 30; with_reducible refine (H4.out _ HK.out).mono ?_; rintro e w4 ⟨rfl, hs4⟩; have HS4 := hide hs4; clear hs4))
    have HBB := hide (HB.out _ _ HS4.out)
    have hc := HS4.out.cell
    have HI := hide (hint_of HE.out)
    obtain ⟨p, s⟩ := r4
    simp only at hc
    by_cases s0 : s = 0
    · have z : (s : Int) = 0 := by omega
      have e := HI.out.1 s0
      have HF := hide e
      clear e
      go_wp2
      go_ret2
      rw [HF.out]
      exact ⟨rfl, HBB.out⟩
    · have z : ¬ (s : Int) = 0 := by omega
      by_cases s12 : s = 12
      · have z2 : (s : Int) = 12 := by omega
        have HF := hide (HI.out.2.1 s12)
        go_wp2
        go_ret2
        rw [HF.out]
        exact ⟨rfl, HBB.out⟩
      · have z2 : ¬ (s : Int) = 12 := by omega
        have HF := hide (HI.out.2.2 s0 s12)
        go_wp2
        go_ret2
        rw [HF.out]
        exact ⟨rfl, HBB.out⟩
end Go.Proofs.Ybulkcgfi
