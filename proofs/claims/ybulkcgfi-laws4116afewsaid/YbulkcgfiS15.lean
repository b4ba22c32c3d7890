import Derived.Test.YbulkcgfiS13
import Derived.Test.YbulkcgfiS14
import Derived.Test.YbulkcgfiP1
namespace Go.Proofs.Ybulkcgfi
open Go.RowKit
set_option linter.unusedVariables false
set_option linter.unusedSimpArgs false
set_option maxRecDepth 100000
theorem isort_at (g cap a b n : Nat) (dk : Array ID) (w wr : World) (hS : SR w g dk wr) (hg : g < w.heap.size) (hd : dk.size = n) (hab : a ≤ b) (hb : b ≤ n) (hn : n ≤ 1024) :
    Calls Yba.prog 15 #[.slice (some ⟨g, 0, none⟩) n cap, .int .i64 a, .int .i64 b, .func (.func 8) #[] #[]] wr fun e w' => e = .returned (.tuple #[]) ∧ SR w g (Sort.insertionSort Sort.ltStr dk a b) w' := by
  subst hd
  exact (isort_any g cap a b dk wr hS.self (by have := hS.fw.size; omega) hab hb hn).mono (fun e w' h => ⟨h.1, hS.trans h.2⟩)
theorem heap_at (g cap a b n : Nat) (dk : Array ID) (w wr : World) (hS : SR w g dk wr) (hg : g < w.heap.size) (hd : dk.size = n) (hab : a < b) (hb : b ≤ n) (hn : n ≤ 1024) :
    Calls Yba.prog 16 #[.slice (some ⟨g, 0, none⟩) n cap, .int .i64 a, .int .i64 b, .func (.func 8) #[] #[]] wr fun e w' => e = .returned (.tuple #[]) ∧ SR w g (Sort.heapSort Sort.ltStr dk a b) w' := by
  subst hd
  exact (heap_any g cap a b dk wr hS.self (by have := hS.fw.size; omega) hab hb hn).mono (fun e w' h => ⟨h.1, hS.trans h.2⟩)
theorem break_at (g cap a b n : Nat) (dk : Array ID) (w wr : World) (hS : SR w g dk wr) (hg : g < w.heap.size) (hd : dk.size = n) (hab : a + 13 ≤ b) (hb : b ≤ n) (hn : n ≤ 1024) :
    Calls Yba.prog 17 #[.slice (some ⟨g, 0, none⟩) n cap, .int .i64 a, .int .i64 b, .func (.func 8) #[] #[]] wr fun e w' => e = .returned (.tuple #[]) ∧ SR w g (Sort.breakPatterns dk a b) w' := by
  subst hd
  exact (break_any g cap a b dk wr hS.self (by have := hS.fw.size; omega) hab hb hn).mono (fun e w' h => ⟨h.1, hS.trans h.2⟩)
theorem pivot_at (g cap a b n : Nat) (dk : Array ID) (w wr : World) (hS : SR w g dk wr) (hg : g < w.heap.size) (hd : dk.size = n) (hab : a + 13 ≤ b) (hb : b ≤ n) (hn : n ≤ 1024) :
    Calls Yba.prog 18 #[.slice (some ⟨g, 0, none⟩) n cap, .int .i64 a, .int .i64 b, .func (.func 8) #[] #[]] wr fun e w' => e = .returned (.tuple #[.int .i64 (Sort.choosePivot Sort.ltStr dk a b).1, .int .i64 (hcode (Sort.choosePivot Sort.ltStr dk a b).2)]) ∧ SR w g dk w' := by
  subst hd
  exact (pivot_any g cap a b dk wr hS.self (by have := hS.fw.size; omega) hab hb hn).mono (fun e w' h => ⟨h.1, hS.below (by have := hS.fw.size; omega) h.2⟩)
theorem rev_at (g cap a b n : Nat) (dk : Array ID) (w wr : World) (hS : SR w g dk wr) (hg : g < w.heap.size) (hd : dk.size = n) (hab : a < b) (hb : b ≤ n) (hn : n ≤ 1024) :
    Calls Yba.prog 19 #[.slice (some ⟨g, 0, none⟩) n cap, .int .i64 a, .int .i64 b, .func (.func 8) #[] #[]] wr fun e w' => e = .returned (.tuple #[]) ∧ SR w g (Sort.reverseRange dk a b) w' := by
  subst hd
  exact (rev_any g cap a b dk wr hS.self (by have := hS.fw.size; omega) hab hb hn).mono (fun e w' h => ⟨h.1, hS.trans h.2⟩)
theorem pins_at (g cap a b n : Nat) (dk : Array ID) (w wr : World) (hS : SR w g dk wr) (hg : g < w.heap.size) (hd : dk.size = n) (hab : a < b) (hb : b ≤ n) (hn : n ≤ 1024) :
    Calls Yba.prog 20 #[.slice (some ⟨g, 0, none⟩) n cap, .int .i64 a, .int .i64 b, .func (.func 8) #[] #[]] wr fun e w' => e = .returned (.bool (Sort.partialInsertionSort Sort.ltStr dk a b).2) ∧ SR w g (Sort.partialInsertionSort Sort.ltStr dk a b).1 w' := by
  subst hd
  exact (pins_any g cap a b dk wr hS.self (by have := hS.fw.size; omega) hab hb hn).mono (fun e w' h => ⟨h.1, hS.trans h.2⟩)
theorem parteq_at (g cap a b pv n : Nat) (dk : Array ID) (w wr : World) (hS : SR w g dk wr) (hg : g < w.heap.size) (hd : dk.size = n) (hap : a ≤ pv) (hpb : pv < b) (hb : b ≤ n) (hn : n ≤ 1024) :
    Calls Yba.prog 21 #[.slice (some ⟨g, 0, none⟩) n cap, .int .i64 a, .int .i64 b, .int .i64 pv, .func (.func 8) #[] #[]] wr fun e w' => e = .returned (.int .i64 (Sort.partitionEqual Sort.ltStr dk a b pv).1) ∧ SR w g (Sort.partitionEqual Sort.ltStr dk a b pv).2 w' := by
  subst hd
  exact (parteq_any g cap a b pv dk wr hS.self (by have := hS.fw.size; omega) hap hpb hb hn).mono (fun e w' h => ⟨h.1, hS.trans h.2⟩)
theorem part_at (g cap a b pv n : Nat) (dk : Array ID) (w wr : World) (hS : SR w g dk wr) (hg : g < w.heap.size) (hd : dk.size = n) (hap : a ≤ pv) (hpb : pv < b) (hb : b ≤ n) (hn : n ≤ 1024) :
    Calls Yba.prog 22 #[.slice (some ⟨g, 0, none⟩) n cap, .int .i64 a, .int .i64 b, .int .i64 pv, .func (.func 8) #[] #[]] wr fun e w' => e = .returned (.tuple #[.int .i64 (Sort.partition Sort.ltStr dk a b pv).1, .bool (Sort.partition Sort.ltStr dk a b pv).2.1]) ∧ SR w g (Sort.partition Sort.ltStr dk a b pv).2.2 w' := by
  subst hd
  exact (part_any g cap a b pv dk wr hS.self (by have := hS.fw.size; omega) hap hpb hb hn).mono (fun e w' h => ⟨h.1, hS.trans h.2⟩)
set_option maxHeartbeats 32000000 in
theorem pdq_any : ∀ (N g cap a b limit : Nat) (d : Array ID) (w : World), b - a < N → SR w g d w → g < w.heap.size → a ≤ b → b ≤ d.size → d.size ≤ 1024 → limit ≤ 64 → Sort.Below Sort.ltStr a b d →
    Calls Yba.prog 12 #[.slice (some ⟨g, 0, none⟩) d.size cap, .int .i64 a, .int .i64 b, .int .i64 limit, .func (.func 8) #[] #[]] w fun e w' => e = .returned (.tuple #[]) ∧ SR w g (Sort.pdq Sort.ltStr d a b limit true true) w' := by
  intro N
  induction N with
  | zero => intro _ _ _ _ _ _ _ h; exact absurd h (Nat.not_lt_zero _)
  | succ N ih =>
    intro g cap a b limit d w hN h0 hg hab hb hn hlimit hBel0
    have H0 := hide (And.intro h0 hBel0)
    have IH := hide ih
    clear h0 hBel0 ih
    go_enter Yba.func12, Yba.ntmps12
    go_wp2_with fail
    go_loopw [1, 2, 3, 10, 11] (fun s1 s2 s3 s10 s11 wr => ∃ (a' b' lim : Nat) (wb wp : Bool) (dk : Array ID), s1 = .int .i64 a' ∧ s2 = .int .i64 b' ∧ s3 = .int .i64 lim ∧ s10 = .bool wb ∧ s11 = .bool wp ∧
      a' ≤ b' ∧ b' ≤ d.size ∧ b' - a' ≤ b - a ∧ lim ≤ 64 ∧ dk.size = d.size ∧ Hid (Sort.Below Sort.ltStr a' b' dk) ∧ SR w g dk wr ∧ Sort.pdq Sort.ltStr dk a' b' lim wb wp = Sort.pdq Sort.ltStr d a b limit true true) (fun s1 s2 _ _ _ _ => (intOf s2 - intOf s1).toNat)
    case atStart => exact ⟨a, b, limit, true, true, d, rfl, rfl, rfl, rfl, rfl, hab, hb, Nat.le_refl _, hlimit, rfl, ⟨H0.out.2⟩, H0.out.1, rfl⟩
    case round =>
      obtain ⟨a', b', lim, wb, wp, dk, rfl, rfl, rfl, rfl, rfl, hab', hb', hN', hlim, hdk, HBel, hS, hE⟩ := hrel
      have HS := hide (And.intro hS hE)
      clear hS hE H0
      obtain ⟨L, hL⟩ : ∃ L, L = b' - a' := ⟨_, rfl⟩
      have m1 : IntKind.i64.wrap ((b' : Int) - (a' : Int)) = L := by rw [wrap_in _ (by omega) (by omega)]; omega
      have HL0 := hide hL
      by_cases h12 : L ≤ 12
      · have z1 : (L : Int) ≤ 12 := by omega
        have HC := hide (isort_at g cap a' b' d.size dk w wr HS.out.1 hg hdk hab' hb' hn)
        have HP : Hid (Sort.pdq Sort.ltStr d a b limit true true = Sort.insertionSort Sort.ltStr dk a' b') := ⟨by rw [← HS.out.2]; exact Sort.pdq_small (by omega)⟩
        clear hL
        go_wp2_with (first | (go_at_call 15; refine HC.out.mono ?_; rintro e w1 ⟨rfl, hs1⟩; have HS1 := hide hs1; clear hs1))
        (try simp only [Exit.inBlock, Exit.then])
        refine bodyPost_ret (results_none rfl _ _ _) rfl ?_
        rw [HP.out]
        exact ⟨rfl, HS1.out⟩
      · have z1 : ¬ (L : Int) ≤ 12 := by omega
        by_cases hl0 : lim = 0
        · have z2 : (lim : Int) = 0 := by omega
          have HC := hide (heap_at g cap a' b' d.size dk w wr HS.out.1 hg hdk (by omega) hb' hn)
          have HP : Hid (Sort.pdq Sort.ltStr d a b limit true true = Sort.heapSort Sort.ltStr dk a' b') := ⟨by rw [← HS.out.2]; exact Sort.pdq_heap (by omega) hl0⟩
          clear hL
          go_wp2_with (first | (go_at_call 16; refine HC.out.mono ?_; rintro e w1 ⟨rfl, hs1⟩; have HS1 := hide hs1; clear hs1))
          (try simp only [Exit.inBlock, Exit.then])
          refine bodyPost_ret (results_none rfl _ _ _) rfl ?_
          rw [HP.out]
          exact ⟨rfl, HS1.out⟩
        · have z2 : ¬ (lim : Int) = 0 := by omega
          obtain ⟨d1, lm, cp, ch, d2, pv, hint, d3, pb, f1, f2, s1, f3, c1, c2, f4, f5, s2, p1, p2, f6, f7, s3, lm1, f8, f9, f10⟩ := round_plain (d := dk) (a := a') (b := b') (lim := lim) (wb := wb) (wp := wp) (by omega) hl0 (by omega) HBel.out
          have HF := hide (And.intro f1 (And.intro f2 (And.intro f4 (And.intro f5 (And.intro f6 (And.intro f7 (And.intro f8 (And.intro f9 f10))))))))
          have HF3 := hide f3
          rw [hdk] at s1 s2 s3
          have h13 : a' + 13 ≤ b' := by omega
          clear f1 f2 f3 f4 f5 f6 f7 f8 f9 f10 hL
          go_upto_if 39 with fail
          go_cut [3] (fun s wc => s = .int .i64 lm ∧ SR w g d1 wc)
          case first =>
            cases wb with
            | false =>
              have e := HF.out.1 rfl
              have HC := hide (break_at g cap a' b' d.size dk w wr HS.out.1 hg hdk h13 hb' hn)
              rw [← e.1] at HC
              have z3 : IntKind.i64.wrap ((lim : Int) - 1) = lm := by rw [wrap_in _ (by omega) (by omega)]; omega
              clear e
              go_wp2_with (first | (go_at_call 17; refine HC.out.mono ?_; rintro e w1 ⟨rfl, hs1⟩; have HS1 := hide hs1; clear hs1))
              go_meet
              exact ⟨rfl, HS1.out⟩
            | true =>
              have HG := hide (HF.out.2.1 rfl)
              go_wp2
              go_meet
              exact ⟨by rw [HG.out.2], by rw [HG.out.1]; exact HS.out.1⟩
          case rest =>
            obtain ⟨hs, hS1⟩ := hcut
            subst hs
            have HC := hide (pivot_at g cap a' b' d.size d1 w wc hS1 hg s1 h13 hb' hn)
            rw [HF3.out] at HC
            simp only at HC
            clear hS1
            obtain ⟨hc, hhc⟩ : ∃ hc, hc = hcode ch := ⟨_, rfl⟩
            rw [← hhc] at HC
            have HHC := hide hhc
            obtain ⟨hd, hhd⟩ : ∃ hd, hd = hcode hint := ⟨_, rfl⟩
            have HHD := hide hhd
            clear hhc hhd
            go_upto_if 56 with (first | (go_at_call 18; refine HC.out.mono ?_; rintro e w2 ⟨rfl, hs2⟩; have HS2 := hide hs2; clear hs2))
            go_cut [13, 14] (fun s13 s14 wc => s13 = .int .i64 pv ∧ s14 = .int .i64 hd ∧ SR w g d2 wc)
            case first =>
              by_cases hh : ch = .decreasing
              · have e := HF.out.2.2.1 hh
                have z3 : hc = 2 := by rw [HHC.out, hh]; rfl
                have HC2 := hide (rev_at g cap a' b' d.size d1 w w2 HS2.out hg s1 (by omega) hb' hn)
                rw [← e.1] at HC2
                obtain ⟨b1, hb1⟩ : ∃ b1, b1 = b' - 1 := ⟨_, rfl⟩
                obtain ⟨pa, hpa⟩ : ∃ pa, pa = cp - a' := ⟨_, rfl⟩
                have z4 : IntKind.i64.wrap ((b' : Int) - 1) = b1 := by rw [wrap_in _ (by omega) (by omega)]; omega
                have z5 : IntKind.i64.wrap ((cp : Int) - (a' : Int)) = pa := by rw [wrap_in _ (by omega) (by omega)]; omega
                have z6 : IntKind.i64.wrap ((b1 : Int) - (pa : Int)) = pv := by rw [wrap_in _ (by omega) (by omega)]; have := e.2.1; omega
                have HD1 : Hid (hd = 1) := ⟨by rw [HHD.out, e.2.2]; rfl⟩
                clear e hb1 hpa hh
                go_wp2_with (first | (go_at_call 19; refine HC2.out.mono ?_; rintro e w3 ⟨rfl, hs3⟩; have HS3 := hide hs3; clear hs3))
                go_meet
                exact ⟨rfl, by rw [HD1.out], HS3.out⟩
              · have HG := hide (HF.out.2.2.2.1 hh)
                have z3 : ¬ hc = 2 := fun h => hh (by rw [HHC.out] at h; cases ch <;> simp [hcode] at h ⊢)
                clear hh
                go_wp2
                go_meet
                exact ⟨by rw [HG.out.2.1], by rw [HHC.out, HHD.out, HG.out.2.2], by rw [HG.out.1]; exact HS2.out⟩
            case rest =>
              obtain ⟨hs13, hs14, hS3⟩ := hcut
              subst hs13
              subst hs14
              have HS3 := hide hS3
              clear hS3
              obtain ⟨W3, rfl⟩ : ∃ W3, W3 = wc := ⟨_, rfl⟩
              obtain ⟨bq, hbq⟩ : ∃ bq, bq = (wb && wp && decide (hint = .increasing)) := ⟨_, rfl⟩
              have HBQ := hide hbq
              clear hbq
              go_upto_region 15 with fail
              go_cut [14, 75] (fun s14 s wc => s14 = .int .i64 hd ∧ s = .bool bq ∧ wc = W3)
              case first =>
                by_cases hh : hint = .increasing
                · have z3 : hd = 1 := by rw [HHD.out, hh]; rfl
                  have HB2 : Hid (bq = (wb && wp)) := ⟨by rw [HBQ.out, decide_eq_true hh, Bool.and_true]⟩
                  have HZ := hide z3
                  clear hh
                  cases wb <;> cases wp <;>
                    (go_wp2
                     go_meet
                     exact ⟨by first | rfl | rw [HZ.out], by rw [HB2.out]; rfl, rfl⟩)
                · have z3 : ¬ hd = 1 := fun h => hh (by rw [HHD.out] at h; cases hint <;> simp [hcode] at h ⊢)
                  have HB2 : Hid (bq = false) := ⟨by rw [HBQ.out, decide_eq_false hh, Bool.and_false]⟩
                  clear hh
                  cases wb <;> cases wp <;>
                    (go_wp2
                     go_meet
                     exact ⟨rfl, by rw [HB2.out]; first | done | simp [z3], rfl⟩)
              case rest =>
                obtain ⟨hs14, hs75, hw⟩ := hcut
                subst hs14
                subst hs75
                subst hw
                obtain ⟨W3, rfl⟩ : ∃ W3, W3 = wc := ⟨_, rfl⟩
                go_upto_if 75 with fail
                go_cut [] (fun wc => pb = false ∧ SR w g d3 wc)
                case first =>
                  cases bq with
                  | false =>
                    have HG := hide (HF.out.2.2.2.2.2.1 HBQ.out.symm)
                    go_wp2
                    go_meet
                    exact ⟨HG.out.2, by rw [HG.out.1]; exact HS3.out⟩
                  | true =>
                    have HC3 := hide (pins_at g cap a' b' d.size d2 w W3 HS3.out hg s2 (by omega) hb' hn)
                    rw [HF.out.2.2.2.2.1 HBQ.out.symm] at HC3
                    simp only at HC3
                    cases pb with
                    | false =>
                      go_wp2_with (first | (go_at_call 20; refine HC3.out.mono ?_; rintro e w4 ⟨rfl, hs4⟩; have HS4 := hide hs4; clear hs4))
                      go_meet
                      first | exact ⟨rfl, HS4.out⟩ | exact ⟨trivial, HS4.out⟩
                    | true =>
                      have HP : Hid (Sort.pdq Sort.ltStr d a b limit true true = d3) := ⟨by rw [← HS.out.2]; exact HF.out.2.2.2.2.2.2.1 rfl⟩
                      go_wp2_with (first | (go_at_call 20; refine HC3.out.mono ?_; rintro e w4 ⟨rfl, hs4⟩; have HS4 := hide hs4; clear hs4))
                      (try simp only [Exit.inBlock, Exit.then])
                      refine bodyPost_ret (results_none rfl _ _ _) rfl ?_
                      rw [HP.out]
                      exact ⟨rfl, HS4.out⟩
                case rest =>
                  obtain ⟨hpb, hS4⟩ := hcut
                  have HS4 := hide hS4
                  have HPB := hide hpb
                  have hg4 : g < wc.heap.size := by have := hS4.fw.size; omega
                  clear hS4 hpb HC
                  obtain ⟨W4, rfl⟩ : ∃ W4, W4 = wc := ⟨_, rfl⟩
                  obtain ⟨am, ham⟩ : ∃ am, am = a' - 1 := ⟨_, rfl⟩
                  have HAM := hide ham
                  obtain ⟨bx, hbx⟩ : ∃ bx, bx = (decide (a' > 0) && !Sort.ltStr d3[am]! d3[pv]!) := ⟨_, rfl⟩
                  have HBX := hide hbx
                  go_upto_region 17 with fail
                  go_cut [97] (fun s wc => s = .bool bx ∧ Below W4.heap.size W4 wc)
                  case first =>
                    by_cases ha0 : 0 < a'
                    · have z3 : (0 : Int) < a' := by omega
                      have z4 : IntKind.i64.wrap ((a' : Int) - 1) = am := by rw [wrap_in _ (by omega) (by omega)]; omega
                      clear hbx
                      have r1x := HS4.out.row am (by omega)
                      have r0x := HS4.out.row pv (by omega)
                      have o1x := HS4.out.ok am (by omega)
                      have o0x := HS4.out.ok pv (by omega)
                      obtain ⟨xx, hxx⟩ : ∃ x, x = d3[am]! := ⟨_, rfl⟩
                      obtain ⟨yx, hyx⟩ : ∃ y, y = d3[pv]! := ⟨_, rfl⟩
                      rw [← hxx] at r1x o1x
                      rw [← hyx] at r0x o0x
                      have b1x : ((am : Nat) : Int) < d.size := by omega
                      have b0x : ((pv : Nat) : Int) < d.size := by omega
                      have b3x : am < d.size := by omega
                      have b2x : pv < d.size := by omega
                      have s1x : (Yba.prog.info? 26).map (·.size) = some (idc xx).length := by rw [idc_len, o1x]; exact info26
                      have s0x : (Yba.prog.info? 26).map (·.size) = some (idc yx).length := by rw [idc_len, o0x]; exact info26
                      have HXx := hide (And.intro hxx hyx)
                      have HRx := hide (And.intro r1x r0x)
                      clear hxx hyx r1x r0x
                      clear ham
                      go_wp2_with fail
                      refine wp_region_held_drew (S := fun w' => w'.rangeAt g (am * 32) (idc xx) ∧ w'.rangeAt g (pv * 32) (idc yx)) (by kernel_rfl) (R2 HRx.out.1 HRx.out.2 hg4 ((Below.refl _ _).drew)) (fun hHeld => ?_)
                      refine wpAnyH_take (i := 0) (v := ?_) rfl (by kernel_rfl) (by kernel_rfl) (by kernel_rfl) (fun _ _ _ h => h) (Or.inl ⟨by rfl, ?hy0⟩) hHeld ?_
                      case hy0 => intro w hSw; go_simp; first | done | (with_reducible rfl)
                      simp only [Act.put, List.getElem_toArray, List.getElem_cons_zero, List.getElem_cons_succ, List.setIfInBounds_toArray, List.set_cons_zero, List.set_cons_succ]
                      refine wpAnyH_take (i := 1) (v := ?_) rfl (by kernel_rfl) (by kernel_rfl) (by kernel_rfl) (fun _ _ _ h => h) (Or.inl ⟨by rfl, ?hy1⟩) hHeld ?_
                      case hy1 => intro w hSw; go_simp; first | done | (with_reducible rfl)
                      simp only [Act.put, List.getElem_toArray, List.getElem_cons_zero, List.getElem_cons_succ, List.setIfInBounds_toArray, List.set_cons_zero, List.set_cons_succ]
                      refine wpAnyH_take (i := 2) (v := ?_) rfl (by kernel_rfl) (by kernel_rfl) (by kernel_rfl) (fun _ _ _ h => h) (Or.inl ⟨by rfl, ?hy2⟩) hHeld ?_
                      case hy2 => intro w hSw; go_simp; first | done | (with_reducible rfl)
                      simp only [Act.put, List.getElem_toArray, List.getElem_cons_zero, List.getElem_cons_succ, List.setIfInBounds_toArray, List.set_cons_zero, List.set_cons_succ]
                      refine wpAnyH_take (i := 3) (v := ?_) rfl (by kernel_rfl) (by kernel_rfl) (by kernel_rfl) (fun _ _ _ h => h) (Or.inl ⟨by rfl, ?hy3⟩) hHeld ?_
                      case hy3 => intro w hSw; go_simp; first | done | (with_reducible rfl)
                      simp only [Act.put, List.getElem_toArray, List.getElem_cons_zero, List.getElem_cons_succ, List.setIfInBounds_toArray, List.set_cons_zero, List.set_cons_succ]
                      refine wpAnyH_take (i := 4) (v := ?_) rfl (by kernel_rfl) (by kernel_rfl) (by kernel_rfl) (fun _ _ _ h => h) (Or.inl ⟨by rfl, ?hy4⟩) hHeld ?_
                      case hy4 => intro w hSw; go_simp; first | done | (with_reducible rfl)
                      simp only [Act.put, List.getElem_toArray, List.getElem_cons_zero, List.getElem_cons_succ, List.setIfInBounds_toArray, List.set_cons_zero, List.set_cons_succ]
                      refine wpAnyH_take (i := 5) (v := ?_) rfl (by kernel_rfl) (by kernel_rfl) (by kernel_rfl) (fun _ _ _ h => h) (Or.inl ⟨by rfl, ?hy5⟩) hHeld ?_
                      case hy5 => intro w hSw; go_simp; first | done | (with_reducible rfl)
                      simp only [Act.put, List.getElem_toArray, List.getElem_cons_zero, List.getElem_cons_succ, List.setIfInBounds_toArray, List.set_cons_zero, List.set_cons_succ]
                      refine wpAnyH_take (i := 6) (v := ?_) rfl (by kernel_rfl) (by kernel_rfl) (by kernel_rfl) (fun _ _ _ h => h) (Or.inl ⟨by rfl, ?hy6⟩) hHeld ?_
                      case hy6 => intro w hSw; go_simp; first | done | (with_reducible rfl)
                      simp only [Act.put, List.getElem_toArray, List.getElem_cons_zero, List.getElem_cons_succ, List.setIfInBounds_toArray, List.set_cons_zero, List.set_cons_succ]
                      refine wpAnyH_take (i := 7) (v := ?_) rfl (by kernel_rfl) (by kernel_rfl) (by kernel_rfl) (fun _ _ _ h => h) (Or.inl ⟨by rfl, ?hy7⟩) hHeld ?_
                      case hy7 => intro w hSw; go_simp; first | done | (with_reducible rfl)
                      simp only [Act.put, List.getElem_toArray, List.getElem_cons_zero, List.getElem_cons_succ, List.setIfInBounds_toArray, List.set_cons_zero, List.set_cons_succ]
                      refine wpAnyH_take (i := 8) (v := _) rfl (by kernel_rfl) (by kernel_rfl) (by kernel_rfl) (fun _ _ _ h => h) (yieldsIf_load_mid (by rfl) 26 (.tmp 88) rfl g (am * 32) rfl (idc xx) _ (fun _ h => h.1) Yba.underlying26 rfl s1x) hHeld ?_
                      simp only [Act.put, List.getElem_toArray, List.getElem_cons_zero, List.getElem_cons_succ, List.setIfInBounds_toArray, List.set_cons_zero, List.set_cons_succ]
                      refine wpAnyH_take (i := 9) (v := ?_) rfl (by kernel_rfl) (by kernel_rfl) (by kernel_rfl) (fun _ _ _ h => h) (Or.inl ⟨by rfl, ?hy9⟩) hHeld ?_
                      case hy9 => intro w hSw; go_simp; first | done | (with_reducible rfl)
                      simp only [Act.put, List.getElem_toArray, List.getElem_cons_zero, List.getElem_cons_succ, List.setIfInBounds_toArray, List.set_cons_zero, List.set_cons_succ]
                      refine wpAnyH_take (i := 10) (v := ?_) rfl (by kernel_rfl) (by kernel_rfl) (by kernel_rfl) (fun _ _ _ h => h) (Or.inl ⟨by rfl, ?hy10⟩) hHeld ?_
                      case hy10 => intro w hSw; go_simp; first | done | (with_reducible rfl)
                      simp only [Act.put, List.getElem_toArray, List.getElem_cons_zero, List.getElem_cons_succ, List.setIfInBounds_toArray, List.set_cons_zero, List.set_cons_succ]
                      refine wpAnyH_take (i := 11) (v := ?_) rfl (by kernel_rfl) (by kernel_rfl) (by kernel_rfl) (fun _ _ _ h => h) (Or.inl ⟨by rfl, ?hy11⟩) hHeld ?_
                      case hy11 => intro w hSw; go_simp; first | done | (with_reducible rfl)
                      simp only [Act.put, List.getElem_toArray, List.getElem_cons_zero, List.getElem_cons_succ, List.setIfInBounds_toArray, List.set_cons_zero, List.set_cons_succ]
                      refine wpAnyH_take (i := 12) (v := _) rfl (by kernel_rfl) (by kernel_rfl) (by kernel_rfl) (fun _ _ _ h => h) (yieldsIf_load_mid (by rfl) 26 (.tmp 92) rfl g (pv * 32) rfl (idc yx) _ (fun _ h => h.2) Yba.underlying26 rfl s0x) hHeld ?_
                      simp only [Act.put, List.getElem_toArray, List.getElem_cons_zero, List.getElem_cons_succ, List.setIfInBounds_toArray, List.set_cons_zero, List.set_cons_succ]
                      refine wpAnyH_ready (rs := [13]) (by kernel_rfl) (by simp) ?_
                      refine AllReadyH.cons rfl (fun K hK => ?_) AllReadyH.nil
                      rw [if_pos (by rfl)]
                      go_simp
                      refine (order_any xx yx _ o1x o0x).mono ?_
                      rintro e w5 ⟨⟨cc, rfl, hcc⟩, hw5⟩; have HB5 := hide (un_drew hw5); have HC5 := hide hcc; clear hw5 hcc
                      clear hHeld
                      refine hK.out _ _ (R2 HRx.out.1 HRx.out.2 hg4 HB5.out) (fun hHeld => ?_)
                      clear hK K
                      refine wpAnyH_take (i := 14) (v := ?_) rfl (by kernel_rfl) (by kernel_rfl) (by kernel_rfl) (fun _ _ _ h => h) (Or.inl ⟨by rfl, ?hy14⟩) hHeld ?_
                      case hy14 => intro w hSw; go_simp; first | done | (with_reducible rfl)
                      simp only [Act.put, List.getElem_toArray, List.getElem_cons_zero, List.getElem_cons_succ, List.setIfInBounds_toArray, List.set_cons_zero, List.set_cons_succ]
                      refine wpAnyH_take (i := 15) (v := ?_) rfl (by kernel_rfl) (by kernel_rfl) (by kernel_rfl) (fun _ _ _ h => h) (Or.inl ⟨by rfl, ?hy15⟩) hHeld ?_
                      case hy15 => intro w hSw; go_simp; first | done | (with_reducible rfl)
                      simp only [Act.put, List.getElem_toArray, List.getElem_cons_zero, List.getElem_cons_succ, List.setIfInBounds_toArray, List.set_cons_zero, List.set_cons_succ]
                      refine wpAnyH_take (i := 16) (v := ?_) rfl (by kernel_rfl) (by kernel_rfl) (by kernel_rfl) (fun _ _ _ h => h) (Or.inl ⟨by rfl, ?hy16⟩) hHeld ?_
                      case hy16 => intro w hSw; go_simp; first | done | (with_reducible rfl)
                      simp only [Act.put, List.getElem_toArray, List.getElem_cons_zero, List.getElem_cons_succ, List.setIfInBounds_toArray, List.set_cons_zero, List.set_cons_succ]
                      refine wpAnyH_done (by kernel_rfl) ?_ _
                      go_wp2
                      go_meet
                      have HL : Sort.ltStr xx yx = decide (cc < 0) := (decide_eq_decide.2 HC5.out).symm
                      exact ⟨by rw [HBX.out, ← HXx.out.1, ← HXx.out.2, HL, decide_eq_true ha0, Bool.true_and]; first | done | simp, HB5.out⟩
                    · have z3 : ¬ (0 : Int) < a' := by omega
                      have z4 : decide (0 < a') = false := decide_eq_false ha0
                      have z5 : a' = 0 := by omega
                      have z6 : decide ((0 : Int) < a') = false := decide_eq_false z3
                      have HB2 : Hid (bx = false) := ⟨by rw [hbx, show decide (a' > 0) = false from decide_eq_false ha0, Bool.false_and]⟩
                      clear hbx ham z5
                      go_wp2_with fail
                      go_quiet (fail)
                      go_wp2
                      go_meet
                      exact ⟨by rw [HB2.out], bdrewN⟩
                  case rest =>
                    clear hbx ham
                    obtain ⟨hs, hbc⟩ := hcut
                    subst hs
                    have HSy := hide (HS4.out.below hg4 hbc)
                    have hgy : g < wc.heap.size := by have := hbc.size; have := hg4; omega
                    clear hbc
                    obtain ⟨W5, rfl⟩ : ∃ W5, W5 = wc := ⟨_, rfl⟩
                    cases bx with
                    | true =>
                      obtain ⟨mid, d4, hx, r1, r2, r3, r4, r5⟩ := HF.out.2.2.2.2.2.2.2.1 HPB.out (by rw [← HAM.out, ← HBX.out])
                      have HC4 := hide (parteq_at g cap a' b' pv d.size d3 w W5 HSy.out hg s3 p1 p2 hb' hn)
                      rw [hx] at HC4
                      simp only at HC4
                      have HR := hide (And.intro r4 r5)
                      rw [hdk] at r3
                      clear hx r4 r5
                      go_wp2_with (first | (go_at_call 21; refine HC4.out.mono ?_; rintro e w6 ⟨rfl, hs6⟩; have HS6 := hide hs6; clear hs6))
                      go_roundw
                      case rel => exact ⟨mid, b', lm, wb, wp, d4, rfl, rfl, rfl, rfl, rfl, r2, hb', by omega, by omega, r3, ⟨HR.out.1⟩, HS6.out, by rw [← HS.out.2, HR.out.2]⟩
                      case measure => simp [intOf] <;> omega
                    | false =>
                      obtain ⟨mid, ap, d4, hx, r1, r2, r3, r4, r5, r6, r7⟩ := HF.out.2.2.2.2.2.2.2.2 HPB.out (by rw [← HAM.out, ← HBX.out])
                      have HC4 := hide (part_at g cap a' b' pv d.size d3 w W5 HSy.out hg s3 p1 p2 hb' hn)
                      rw [hx] at HC4
                      simp only at HC4
                      have HR := hide (And.intro r4 (And.intro r5 (And.intro r6 r7)))
                      clear r4 r5 r6 r7
                      rw [hdk] at r3
                      obtain ⟨lf, hlf⟩ : ∃ lf, lf = mid - a' := ⟨_, rfl⟩
                      obtain ⟨rt, hrt⟩ : ∃ rt, rt = b' - mid := ⟨_, rfl⟩
                      obtain ⟨e8, he8⟩ : ∃ e8, e8 = L / 8 := ⟨_, rfl⟩
                      obtain ⟨mp, hmp⟩ : ∃ mp, mp = mid + 1 := ⟨_, rfl⟩
                      have z3 : IntKind.i64.wrap ((mid : Int) - (a' : Int)) = lf := by rw [wrap_in _ (by omega) (by omega)]; omega
                      have z4 : IntKind.i64.wrap ((b' : Int) - (mid : Int)) = rt := by rw [wrap_in _ (by omega) (by omega)]; omega
                      have hLL : L ≤ 1024 := by have := HL0.out; omega
                      have z5 : (L : Int) / 8 = e8 := by omega
                      have z6 : (L : Int).tdiv 8 = e8 := by rw [Int.tdiv_eq_ediv_of_nonneg (by omega)]; omega
                      have z7 : IntKind.i64.wrap (e8 : Int) = e8 := wrap_in _ (by omega) (by omega)
                      have z8 : IntKind.i64.wrap ((mid : Int) + 1) = mp := by rw [wrap_in _ (by omega) (by omega)]; omega
                      have HLR := hide (And.intro hlf (And.intro hrt (And.intro he8 hmp)))
                      have HDE : Hid (decide (e8 ≤ lf) = decide (mid - a' ≥ (b' - a') / 8) ∧ decide (e8 ≤ rt) = decide (b' - mid ≥ (b' - a') / 8)) := ⟨by
                        rw [hlf, hrt, he8, HL0.out]
                        exact ⟨rfl, rfl⟩⟩
                      clear hx hlf hrt he8 hmp
                      by_cases h4 : lf < rt
                      · have z9 : (lf : Int) < rt := by omega
                        obtain ⟨d5, q1, q2, q3, q4⟩ := HR.out.2.2.1 (by have := HLR.out; omega)
                        have HQ := hide (And.intro q1 (And.intro q3 q4))
                        rw [hdk] at q2
                        clear q1 q3 q4
                        have HIH : Hid (∀ w6, SR w g d4 w6 → Calls Yba.prog 12 #[.slice (some ⟨g, 0, none⟩) d.size cap, .int .i64 a', .int .i64 mid, .int .i64 lm, .func (.func 8) #[] #[]] w6 fun e w' => e = .returned (.tuple #[]) ∧ SR w g d5 w') := ⟨fun w6 h6 => by
                          have h := IH.out g cap a' mid lm d4 w6 (by omega) h6.self (by have := h6.fw.size; omega) r1 (by omega) (by omega) (by omega) HR.out.1
                          rw [r3, ← HQ.out.1] at h
                          exact h.mono (fun e w' h => ⟨h.1, h6.trans h.2⟩)⟩
                        clear HR
                        go_wp2_with (first
                          | (go_at_call 22; refine HC4.out.mono ?_; rintro e w6 ⟨rfl, hs6⟩; have HS6 := hide hs6; clear hs6)
                          | (go_at_call 12; refine (HIH.out _ HS6.out).mono ?_; rintro e w7 ⟨rfl, hs7⟩; have HS7 := hide hs7; clear hs7))
                        go_roundw
                        case rel => exact ⟨mp, b', lm, decide (mid - a' ≥ (b' - a') / 8), ap, d5, rfl, rfl, rfl, by rw [← HDE.out.1], rfl, by have := HLR.out; omega, hb', by have := HLR.out; omega, by omega, q2, ⟨by rw [HLR.out.2.2.2]; exact HQ.out.2.1⟩, HS7.out, by rw [← HS.out.2, HQ.out.2.2, HLR.out.2.2.2]⟩
                        case measure => have := HLR.out; simp [intOf] <;> omega
                      · have z9 : ¬ (lf : Int) < rt := by omega
                        obtain ⟨d5, q1, q2, q3, q4⟩ := HR.out.2.2.2 (by have := HLR.out; omega)
                        have HQ := hide (And.intro q1 (And.intro q3 q4))
                        rw [hdk] at q2
                        clear q1 q3 q4
                        have HIH : Hid (∀ w6, SR w g d4 w6 → Calls Yba.prog 12 #[.slice (some ⟨g, 0, none⟩) d.size cap, .int .i64 mp, .int .i64 b', .int .i64 lm, .func (.func 8) #[] #[]] w6 fun e w' => e = .returned (.tuple #[]) ∧ SR w g d5 w') := ⟨fun w6 h6 => by
                          have h := IH.out g cap (mid + 1) b' lm d4 w6 (by omega) h6.self (by have := h6.fw.size; omega) (by omega) (by omega) (by omega) (by omega) HR.out.2.1
                          rw [r3, ← HQ.out.1, ← HLR.out.2.2.2] at h
                          exact h.mono (fun e w' h => ⟨h.1, h6.trans h.2⟩)⟩
                        clear HR
                        go_wp2_with (first
                          | (go_at_call 22; refine HC4.out.mono ?_; rintro e w6 ⟨rfl, hs6⟩; have HS6 := hide hs6; clear hs6)
                          | (go_at_call 12; refine (HIH.out _ HS6.out).mono ?_; rintro e w7 ⟨rfl, hs7⟩; have HS7 := hide hs7; clear hs7))
                        go_roundw
                        case rel => exact ⟨a', mid, lm, decide (b' - mid ≥ (b' - a') / 8), ap, d5, rfl, rfl, rfl, by rw [← HDE.out.2], rfl, r1, by omega, by omega, by omega, q2, ⟨HQ.out.2.1⟩, HS7.out, by rw [← HS.out.2, HQ.out.2.2]⟩
                        case measure => simp [intOf] <;> omega
end Go.Proofs.Ybulkcgfi
