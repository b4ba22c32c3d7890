import Derived.Test.YbulkcgfiS12
namespace Go.Proofs.Ybulkcgfi
open Go.RowKit
set_option linter.unusedVariables false
set_option linter.unusedSimpArgs false
set_option maxRecDepth 100000
theorem ss_step (d : Array ID) (b i : Nat) : Sort.scanSorted Sort.ltStr d b i = if (decide (i < b) && !Sort.ltStr d[i]! d[i - 1]!) = true then Sort.scanSorted Sort.ltStr d b (i + 1) else i := by
  rw [Sort.scanSorted]
theorem sdn_step (j j' : Nat) (d : Array ID) (hj : j = j' + 1) : Sort.shiftDown Sort.ltStr j d = if Sort.ltStr d[j]! d[j']! = true then Sort.shiftDown Sort.ltStr j' (Sort.swp d j j') else d := by
  subst hj
  rw [Sort.shiftDown]
  cases Sort.ltStr d[j' + 1]! d[j']! <;> simp
theorem sup_step (b j j' : Nat) (d : Array ID) (hj : j' = j - 1) (h : j < b) : Sort.shiftUp Sort.ltStr b j d = if Sort.ltStr d[j]! d[j']! = true then Sort.shiftUp Sort.ltStr b (j + 1) (Sort.swp d j j') else d := by
  subst hj
  rw [Sort.shiftUp, if_pos h]
  cases Sort.ltStr d[j]! d[j - 1]! <;> simp
theorem sup_end (b j : Nat) (d : Array ID) (h : ¬ j < b) : Sort.shiftUp Sort.ltStr b j d = d := by
  rw [Sort.shiftUp, if_neg h]
theorem pi_true' (a b s i : Nat) (d : Array ID) (hs : s < 5) (hK : Sort.scanSorted Sort.ltStr d b i = b) : Sort.partialIns Sort.ltStr a b (5 - s) i d = (d, true) := by
  rw [show 5 - s = (5 - (s + 1)) + 1 by omega, Sort.partialIns, hK]; simp
theorem pi_short' (a b s i k : Nat) (d : Array ID) (hs : s < 5) (hK : Sort.scanSorted Sort.ltStr d b i = k) (hkb : k ≠ b) (h50 : b - a < 50) : Sort.partialIns Sort.ltStr a b (5 - s) i d = (d, false) := by
  rw [show 5 - s = (5 - (s + 1)) + 1 by omega, Sort.partialIns, hK]; simp [hkb, h50]
theorem pi_go' (a b s i k k' : Nat) (d d1 d2 d3 : Array ID) (hs : s < 5) (hK : Sort.scanSorted Sort.ltStr d b i = k) (hk' : k' = k - 1) (hkb : k ≠ b) (h50 : ¬ b - a < 50) (h1 : d1 = Sort.swp d k k') (h2 : d2 = if k - a ≥ 2 then Sort.shiftDown Sort.ltStr k' d1 else d1) (h3 : d3 = if b - k ≥ 2 then Sort.shiftUp Sort.ltStr b (k + 1) d2 else d2) :
    Sort.partialIns Sort.ltStr a b (5 - s) i d = Sort.partialIns Sort.ltStr a b (5 - (s + 1)) k d3 := by
  rw [show 5 - s = (5 - (s + 1)) + 1 by omega, Sort.partialIns, hK]
  simp only
  rw [if_neg hkb, if_neg h50, ← hk', ← h1, ← h2, ← h3]
theorem size_sdn : ∀ (j : Nat) (d : Array ID), (Sort.shiftDown Sort.ltStr j d).size = d.size
  | 0, d => rfl
  | j + 1, d => by
    rw [sdn_step (j + 1) j d rfl]
    split
    · rw [size_sdn j, size_swp']
    · rfl
set_option maxHeartbeats 32000000 in
theorem pins_any (g cap a b : Nat) (d : Array ID) (w : World) (h0 : SR w g d w) (hg : g < w.heap.size) (hab : a < b) (hb : b ≤ d.size) (hn : d.size ≤ 1024) :
    Calls Yba.prog 20 #[.slice (some ⟨g, 0, none⟩) d.size cap, .int .i64 a, .int .i64 b, .func (.func 8) #[] #[]] w fun e w' => e = .returned (.bool (Sort.partialInsertionSort Sort.ltStr d a b).2) ∧ SR w g (Sort.partialInsertionSort Sort.ltStr d a b).1 w' := by
  have H0 := hide h0
  clear h0
  obtain ⟨a', ha'⟩ : ∃ a', a' = a + 1 := ⟨_, rfl⟩
  have m1 : IntKind.i64.wrap ((a : Int) + 1) = a' := by rw [wrap_in _ (by omega) (by omega)]; omega
  have HE : Hid (Sort.partialInsertionSort Sort.ltStr d a b = Sort.partialIns Sort.ltStr a b (5 - 0) a' d) := ⟨by rw [ha']; rfl⟩
  obtain ⟨L, hL⟩ : ∃ L, L = b - a := ⟨_, rfl⟩
  have m2 : IntKind.i64.wrap ((b : Int) - (a : Int)) = L := by rw [wrap_in _ (by omega) (by omega)]; omega
  have HL0 := hide hL
  have ha1 : a < a' := by omega
  have ha2 : a' ≤ b := by omega
  clear ha' hL
  go_enter Yba.func20, Yba.ntmps20
  go_wp2_with fail
  go_loopw [9, 10] (fun iv sv wr => ∃ (s i : Nat) (dk : Array ID), s ≤ 5 ∧ a < i ∧ i ≤ b ∧ iv = .int .i64 i ∧ sv = .int .i64 s ∧ dk.size = d.size ∧ SR w g dk wr ∧ Sort.partialIns Sort.ltStr a b (5 - s) i dk = Sort.partialInsertionSort Sort.ltStr d a b) (fun iv sv _ => (5 - intOf sv).toNat)
  case atStart => exact ⟨0, a', d, by omega, ha1, ha2, rfl, rfl, rfl, H0.out, HE.out.symm⟩
  case round =>
    obtain ⟨s, i, dk, hs, hi1, hi2, rfl, rfl, hdk, hS, hO⟩ := hrel
    have HS := hide (And.intro hS hO)
    clear hS hO HE
    by_cases hs5 : s < 5
    · have z1 : (s : Int) < 5 := by omega
      have z2 := wrap_in ((s : Int) + 1) (by omega) (by omega)
      go_wp2_with fail
      go_loopw [9] (fun v wr => ∃ m : Nat, i ≤ m ∧ m ≤ b ∧ v = .int .i64 m ∧ SR w g dk wr ∧ Sort.scanSorted Sort.ltStr dk b m = Sort.scanSorted Sort.ltStr dk b i) (fun v _ => ((b : Int) - intOf v).toNat)
      case atStart => exact ⟨i, Nat.le_refl _, hi2, rfl, HS.out.1, rfl⟩
      case round =>
        obtain ⟨m, hm1, hm2, rfl, hSm, hEm⟩ := hrel
        have hgm : g < wr.heap.size := by have := hSm.fw.size; omega
        have HM := hide (And.intro hSm hEm)
        clear hSm hEm
        obtain ⟨Wm, rfl⟩ : ∃ W, W = wr := ⟨_, rfl⟩
        obtain ⟨m', hm'⟩ : ∃ m', m' = m - 1 := ⟨_, rfl⟩
        have z3 : IntKind.i64.wrap ((m : Int) - 1) = m' := by rw [wrap_in _ (by omega) (by omega)]; omega
        have HM' := hide hm'
        have hm3 : m' < m := by omega
        have hm4 : m = m' + 1 := by omega
        have HM4 := hide hm4
        clear hm' hm4
        go_upto_region 5 with fail
        go_cut [36] (fun s wc => s = .bool (decide (m < b) && !Sort.ltStr dk[m]! dk[m']!) ∧ Below Wm.heap.size Wm wc)
        case first =>
          by_cases hmb : m < b
          · have hmi : (m : Int) < b := by omega
            have r1b := HM.out.1.row m (by omega)
            have r0b := HM.out.1.row m' (by omega)
            have o1b := HM.out.1.ok m (by omega)
            have o0b := HM.out.1.ok m' (by omega)
            obtain ⟨xb, hxb⟩ : ∃ x, x = dk[m]! := ⟨_, rfl⟩
            obtain ⟨yb, hyb⟩ : ∃ y, y = dk[m']! := ⟨_, rfl⟩
            rw [← hxb] at r1b o1b
            rw [← hyb] at r0b o0b
            have b1b : ((m : Nat) : Int) < d.size := by omega
            have b0b : ((m' : Nat) : Int) < d.size := by omega
            have b3b : m < d.size := by omega
            have b2b : m' < d.size := by omega
            have s1b : (Yba.prog.info? 26).map (·.size) = some (idc xb).length := by rw [idc_len, o1b]; exact info26
            have s0b : (Yba.prog.info? 26).map (·.size) = some (idc yb).length := by rw [idc_len, o0b]; exact info26
            have HXb := hide (And.intro hxb hyb)
            have HRb := hide (And.intro r1b r0b)
            clear hxb hyb r1b r0b
            go_wp2_with fail
            refine wp_region_held_drew (S := fun w' => w'.rangeAt g (m * 32) (idc xb) ∧ w'.rangeAt g (m' * 32) (idc yb)) (by kernel_rfl) (R2 HRb.out.1 HRb.out.2 hgm ((Below.refl _ _).drew)) (fun hHeld => ?_)
            refine wpAnyH_take (i := 0) (v := ?_) rfl (by kernel_rfl) (by kernel_rfl) (by kernel_rfl) (fun _ _ _ h => h) (Or.inl ⟨by rfl, ?hy0⟩) hHeld ?_
            case hy0 => intro w hSw; go_simp; first | done | (with_reducible rfl)
            simp only [Act.put, List.getElem_toArray, List.getElem_cons_zero, List.getElem_cons_succ, List.setIfInBounds_toArray, List.set_cons_zero, List.set_cons_succ]
            refine wpAnyH_take (i := 1) (v := ?_) rfl (by kernel_rfl) (by kernel_rfl) (by kernel_rfl) (fun _ _ _ h => h) (Or.inl ⟨by rfl, ?hy1⟩) hHeld ?_
            case hy1 => intro w hSw; go_simp; first | done | (with_reducible rfl)
            simp only [Act.put, List.getElem_toArray, List.getElem_cons_zero, List.getElem_cons_succ, List.setIfInBounds_toArray, List.set_cons_zero, List.set_cons_succ]
            refine wpAnyH_take (i := 2) (v := ?_) rfl (by kernel_rfl) (by kernel_rfl) (by kernel_rfl) (fun _ _ _ h => h) (Or.inl ⟨by rfl, ?hy2⟩) hHeld ?_
            case hy2 => intro w hSw; go_simp; first | done | (with_reducible rfl)
            simp only [Act.put, List.getElem_toArray, List.getElem_cons_zero, List.getElem_cons_succ, List.setIfInBounds_toArray, List.set_cons_zero, List.set_cons_succ]
            refine wpAnyH_take (i := 3) (v := ?_) rfl (by kernel_rfl) (by kernel_rfl) (by kernel_rfl) (fun _ _ _ h => h) (Or.inl ⟨by rfl, ?hy3⟩) hHeld ?_
            case hy3 => intro w hSw; go_simp; first | done | (with_reducible rfl)
            simp only [Act.put, List.getElem_toArray, List.getElem_cons_zero, List.getElem_cons_succ, List.setIfInBounds_toArray, List.set_cons_zero, List.set_cons_succ]
            refine wpAnyH_take (i := 4) (v := ?_) rfl (by kernel_rfl) (by kernel_rfl) (by kernel_rfl) (fun _ _ _ h => h) (Or.inl ⟨by rfl, ?hy4⟩) hHeld ?_
            case hy4 => intro w hSw; go_simp; first | done | (with_reducible rfl)
            simp only [Act.put, List.getElem_toArray, List.getElem_cons_zero, List.getElem_cons_succ, List.setIfInBounds_toArray, List.set_cons_zero, List.set_cons_succ]
            refine wpAnyH_take (i := 5) (v := ?_) rfl (by kernel_rfl) (by kernel_rfl) (by kernel_rfl) (fun _ _ _ h => h) (Or.inl ⟨by rfl, ?hy5⟩) hHeld ?_
            case hy5 => intro w hSw; go_simp; first | done | (with_reducible rfl)
            simp only [Act.put, List.getElem_toArray, List.getElem_cons_zero, List.getElem_cons_succ, List.setIfInBounds_toArray, List.set_cons_zero, List.set_cons_succ]
            refine wpAnyH_take (i := 6) (v := ?_) rfl (by kernel_rfl) (by kernel_rfl) (by kernel_rfl) (fun _ _ _ h => h) (Or.inl ⟨by rfl, ?hy6⟩) hHeld ?_
            case hy6 => intro w hSw; go_simp; first | done | (with_reducible rfl)
            simp only [Act.put, List.getElem_toArray, List.getElem_cons_zero, List.getElem_cons_succ, List.setIfInBounds_toArray, List.set_cons_zero, List.set_cons_succ]
            refine wpAnyH_take (i := 7) (v := ?_) rfl (by kernel_rfl) (by kernel_rfl) (by kernel_rfl) (fun _ _ _ h => h) (Or.inl ⟨by rfl, ?hy7⟩) hHeld ?_
            case hy7 => intro w hSw; go_simp; first | done | (with_reducible rfl)
            simp only [Act.put, List.getElem_toArray, List.getElem_cons_zero, List.getElem_cons_succ, List.setIfInBounds_toArray, List.set_cons_zero, List.set_cons_succ]
            refine wpAnyH_take (i := 8) (v := _) rfl (by kernel_rfl) (by kernel_rfl) (by kernel_rfl) (fun _ _ _ h => h) (yieldsIf_load_mid (by rfl) 26 (.tmp 26) rfl g (m * 32) rfl (idc xb) _ (fun _ h => h.1) Yba.underlying26 rfl s1b) hHeld ?_
            simp only [Act.put, List.getElem_toArray, List.getElem_cons_zero, List.getElem_cons_succ, List.setIfInBounds_toArray, List.set_cons_zero, List.set_cons_succ]
            refine wpAnyH_take (i := 9) (v := ?_) rfl (by kernel_rfl) (by kernel_rfl) (by kernel_rfl) (fun _ _ _ h => h) (Or.inl ⟨by rfl, ?hy9⟩) hHeld ?_
            case hy9 => intro w hSw; go_simp; first | done | (with_reducible rfl)
            simp only [Act.put, List.getElem_toArray, List.getElem_cons_zero, List.getElem_cons_succ, List.setIfInBounds_toArray, List.set_cons_zero, List.set_cons_succ]
            refine wpAnyH_take (i := 10) (v := ?_) rfl (by kernel_rfl) (by kernel_rfl) (by kernel_rfl) (fun _ _ _ h => h) (Or.inl ⟨by rfl, ?hy10⟩) hHeld ?_
            case hy10 => intro w hSw; go_simp; first | done | (with_reducible rfl)
            simp only [Act.put, List.getElem_toArray, List.getElem_cons_zero, List.getElem_cons_succ, List.setIfInBounds_toArray, List.set_cons_zero, List.set_cons_succ]
            refine wpAnyH_take (i := 11) (v := ?_) rfl (by kernel_rfl) (by kernel_rfl) (by kernel_rfl) (fun _ _ _ h => h) (Or.inl ⟨by rfl, ?hy11⟩) hHeld ?_
            case hy11 => intro w hSw; go_simp; first | done | (with_reducible rfl)
            simp only [Act.put, List.getElem_toArray, List.getElem_cons_zero, List.getElem_cons_succ, List.setIfInBounds_toArray, List.set_cons_zero, List.set_cons_succ]
            refine wpAnyH_take (i := 12) (v := ?_) rfl (by kernel_rfl) (by kernel_rfl) (by kernel_rfl) (fun _ _ _ h => h) (Or.inl ⟨by rfl, ?hy12⟩) hHeld ?_
            case hy12 => intro w hSw; go_simp; first | done | (with_reducible rfl)
            simp only [Act.put, List.getElem_toArray, List.getElem_cons_zero, List.getElem_cons_succ, List.setIfInBounds_toArray, List.set_cons_zero, List.set_cons_succ]
            refine wpAnyH_take (i := 13) (v := _) rfl (by kernel_rfl) (by kernel_rfl) (by kernel_rfl) (fun _ _ _ h => h) (yieldsIf_load_mid (by rfl) 26 (.tmp 31) rfl g (m' * 32) rfl (idc yb) _ (fun _ h => h.2) Yba.underlying26 rfl s0b) hHeld ?_
            simp only [Act.put, List.getElem_toArray, List.getElem_cons_zero, List.getElem_cons_succ, List.setIfInBounds_toArray, List.set_cons_zero, List.set_cons_succ]
            refine wpAnyH_ready (rs := [14]) (by kernel_rfl) (by simp) ?_
            refine AllReadyH.cons rfl (fun K hK => ?_) AllReadyH.nil
            rw [if_pos (by rfl)]
            go_simp
            refine (order_any xb yb _ o1b o0b).mono ?_
            rintro e w5 ⟨⟨cc, rfl, hcc⟩, hw5⟩; have HB5 := hide (un_drew hw5); have HC5 := hide hcc; clear hw5 hcc
            clear hHeld
            refine hK.out _ _ (R2 HRb.out.1 HRb.out.2 hgm HB5.out) (fun hHeld => ?_)
            clear hK K
            refine wpAnyH_take (i := 15) (v := ?_) rfl (by kernel_rfl) (by kernel_rfl) (by kernel_rfl) (fun _ _ _ h => h) (Or.inl ⟨by rfl, ?hy15⟩) hHeld ?_
            case hy15 => intro w hSw; go_simp; first | done | (with_reducible rfl)
            simp only [Act.put, List.getElem_toArray, List.getElem_cons_zero, List.getElem_cons_succ, List.setIfInBounds_toArray, List.set_cons_zero, List.set_cons_succ]
            refine wpAnyH_take (i := 16) (v := ?_) rfl (by kernel_rfl) (by kernel_rfl) (by kernel_rfl) (fun _ _ _ h => h) (Or.inl ⟨by rfl, ?hy16⟩) hHeld ?_
            case hy16 => intro w hSw; go_simp; first | done | (with_reducible rfl)
            simp only [Act.put, List.getElem_toArray, List.getElem_cons_zero, List.getElem_cons_succ, List.setIfInBounds_toArray, List.set_cons_zero, List.set_cons_succ]
            refine wpAnyH_take (i := 17) (v := ?_) rfl (by kernel_rfl) (by kernel_rfl) (by kernel_rfl) (fun _ _ _ h => h) (Or.inl ⟨by rfl, ?hy17⟩) hHeld ?_
            case hy17 => intro w hSw; go_simp; first | done | (with_reducible rfl)
            simp only [Act.put, List.getElem_toArray, List.getElem_cons_zero, List.getElem_cons_succ, List.setIfInBounds_toArray, List.set_cons_zero, List.set_cons_succ]
            refine wpAnyH_done (by kernel_rfl) ?_ _
            go_wp2
            go_meet
            have HL : Sort.ltStr xb yb = decide (cc < 0) := (decide_eq_decide.2 HC5.out).symm
            exact ⟨by rw [← HXb.out.1, ← HXb.out.2, HL, decide_eq_true hmb, Bool.true_and]; first | done | simp, HB5.out⟩
          · have hmi : ¬ (m : Int) < b := by omega
            have hmd : decide (m < b) = false := decide_eq_false hmb
            go_wp2_with fail
            go_quiet (fail)
            go_wp2
            go_meet
            exact ⟨by rw [hmd, Bool.false_and], bdrewN⟩
        case rest =>
          obtain ⟨hs, hbc⟩ := hcut
          subst hs
          have HSb := hide (HM.out.1.below hgm hbc)
          have hgb : g < wc.heap.size := by have := hbc.size; have := hgm; omega
          clear hbc
          generalize hbb : (decide (m < b) && !Sort.ltStr dk[m]! dk[m']!) = bb
          cases bb with
          | true =>
            have hmb : m < b := of_decide_eq_true (Bool.and_eq_true_iff.1 hbb).1
            have HE2 : Hid (Sort.scanSorted Sort.ltStr dk b (m + 1) = Sort.scanSorted Sort.ltStr dk b i) := ⟨by rw [← HM.out.2, ss_step dk b m, ← HM'.out, if_pos hbb]⟩
            have hw1 := wrap_in ((m : Int) + 1) (by omega) (by omega)
            clear hbb
            go_wp2
            go_roundw
            case rel => exact ⟨m + 1, by omega, by omega, by go_num, HSb.out, HE2.out⟩
            case measure => simp [intOf] <;> omega
          | false =>
            have HK : Hid (Sort.scanSorted Sort.ltStr dk b i = m) := ⟨by rw [← HM.out.2, ss_step dk b m, ← HM'.out, if_neg (by rw [hbb]; exact Bool.false_ne_true)]⟩
            clear hbb HM hgm
            by_cases hmb : m = b
            · have z4 : (m : Int) = b := by omega
              have HF : Hid (Sort.partialInsertionSort Sort.ltStr d a b = (dk, true)) := ⟨by rw [← HS.out.2]; exact pi_true' a b s i dk hs5 (by rw [HK.out]; exact hmb)⟩
              go_wp2
              go_ret
              rw [HF.out]
              exact ⟨rfl, HSb.out⟩
            · have z4 : ¬ (m : Int) = b := by omega
              by_cases h50 : L < 50
              · have z5 : (L : Int) < 50 := by omega
                have HF : Hid (Sort.partialInsertionSort Sort.ltStr d a b = (dk, false)) := ⟨by rw [← HS.out.2]; exact pi_short' a b s i m dk hs5 HK.out hmb (by have := HL0.out; omega)⟩
                go_wp2
                go_ret
                rw [HF.out]
                exact ⟨rfl, HSb.out⟩
              · have z5 : ¬ (L : Int) < 50 := by omega
                have hmlt : m < b := by omega
                obtain ⟨W1, rfl⟩ : ∃ W1, W1 = wc := ⟨_, rfl⟩
                have hSdc := HSb.out.below hgb ((Below.refl _ _).drew)
                have HSWc := hSdc.swap (i := m) (j := m') (by omega) (by omega)
                have r1c := hSdc.row m' (by omega)
                have r0c := hSdc.row m (by omega)
                have o1c := hSdc.ok m' (by omega)
                have o0c := hSdc.ok m (by omega)
                have t0c := hSdc.there (x := m) (by omega)
                have t1c := (hSdc.store (i := m) (by omega) dk[m']! o1c).there (x := m') (by rw [Array.size_setIfInBounds]; omega)
                obtain ⟨xc, hxc⟩ : ∃ x, x = dk[m']! := ⟨_, rfl⟩
                obtain ⟨yc, hyc⟩ : ∃ y, y = dk[m]! := ⟨_, rfl⟩
                rw [← hxc] at r1c o1c t1c
                rw [← hyc] at r0c o0c
                rw [← hxc, ← hyc] at HSWc
                have HSWc := hide HSWc
                have b1c : ((m' : Nat) : Int) < d.size := by omega
                have b0c : ((m : Nat) : Int) < d.size := by omega
                have b3c : m' < d.size := by omega
                have b2c : m < d.size := by omega
                have s1c : (Yba.prog.info? 26).map (·.size) = some (idc xc).length := by rw [idc_len, o1c]; exact info26
                have s0c : (Yba.prog.info? 26).map (·.size) = some (idc yc).length := by rw [idc_len, o0c]; exact info26
                have l1c : (idc xc).length = 32 := by rw [idc_len, o1c]
                have l0c : (idc yc).length = 32 := by rw [idc_len, o0c]
                have HRTc := hide (And.intro r1c (And.intro r0c (And.intro t0c t1c)))
                clear hxc hyc r1c r0c t0c t1c hSdc
                go_upto_region 11 with fail
                go_cut [] (fun wc => SR w g (Sort.swp dk m m') wc ∧ W1.heap.size ≤ wc.heap.size)
                case first =>
                  go_wp2_with fail
                  refine wp_region_any (by kernel_rfl) ?_
                  change wpAny _ _ _ _ _ _ _ (World.drew _)
                  refine wpAny_take (i := 0) (v := ?_) rfl (by kernel_rfl) (by kernel_rfl) (by kernel_rfl) (fun _ _ _ h => h) (Or.inl ⟨by rfl, ?hy0⟩) ?_
                  case hy0 => intro w; go_simp; first | done | (with_reducible rfl)
                  simp only [Act.put, List.getElem_toArray, List.getElem_cons_zero, List.getElem_cons_succ, List.setIfInBounds_toArray, List.set_cons_zero, List.set_cons_succ]
                  refine wpAny_take (i := 1) (v := ?_) rfl (by kernel_rfl) (by kernel_rfl) (by kernel_rfl) (fun _ _ _ h => h) (Or.inl ⟨by rfl, ?hy1⟩) ?_
                  case hy1 => intro w; go_simp; first | done | (with_reducible rfl)
                  simp only [Act.put, List.getElem_toArray, List.getElem_cons_zero, List.getElem_cons_succ, List.setIfInBounds_toArray, List.set_cons_zero, List.set_cons_succ]
                  refine wpAny_take (i := 2) (v := ?_) rfl (by kernel_rfl) (by kernel_rfl) (by kernel_rfl) (fun _ _ _ h => h) (Or.inl ⟨by rfl, ?hy2⟩) ?_
                  case hy2 => intro w; go_simp; first | done | (with_reducible rfl)
                  simp only [Act.put, List.getElem_toArray, List.getElem_cons_zero, List.getElem_cons_succ, List.setIfInBounds_toArray, List.set_cons_zero, List.set_cons_succ]
                  refine wpAny_take (i := 3) (v := ?_) rfl (by kernel_rfl) (by kernel_rfl) (by kernel_rfl) (fun _ _ _ h => h) (Or.inl ⟨by rfl, ?hy3⟩) ?_
                  case hy3 => intro w; go_simp; first | done | (with_reducible rfl)
                  simp only [Act.put, List.getElem_toArray, List.getElem_cons_zero, List.getElem_cons_succ, List.setIfInBounds_toArray, List.set_cons_zero, List.set_cons_succ]
                  refine wpAny_take (i := 4) (v := ?_) rfl (by kernel_rfl) (by kernel_rfl) (by kernel_rfl) (fun _ _ _ h => h) (Or.inl ⟨by rfl, ?hy4⟩) ?_
                  case hy4 => intro w; go_simp; first | done | (with_reducible rfl)
                  simp only [Act.put, List.getElem_toArray, List.getElem_cons_zero, List.getElem_cons_succ, List.setIfInBounds_toArray, List.set_cons_zero, List.set_cons_succ]
                  refine wpAny_take (i := 5) (v := ?_) rfl (by kernel_rfl) (by kernel_rfl) (by kernel_rfl) (fun _ _ _ h => h) (Or.inl ⟨by rfl, ?hy5⟩) ?_
                  case hy5 => intro w; go_simp; first | done | (with_reducible rfl)
                  simp only [Act.put, List.getElem_toArray, List.getElem_cons_zero, List.getElem_cons_succ, List.setIfInBounds_toArray, List.set_cons_zero, List.set_cons_succ]
                  refine wpAny_take (i := 6) (v := ?_) rfl (by kernel_rfl) (by kernel_rfl) (by kernel_rfl) (fun _ _ _ h => h) (Or.inl ⟨by rfl, ?hy6⟩) ?_
                  case hy6 => intro w; go_simp; first | done | (with_reducible rfl)
                  simp only [Act.put, List.getElem_toArray, List.getElem_cons_zero, List.getElem_cons_succ, List.setIfInBounds_toArray, List.set_cons_zero, List.set_cons_succ]
                  refine wpAny_take (i := 7) (v := ?_) rfl (by kernel_rfl) (by kernel_rfl) (by kernel_rfl) (fun _ _ _ h => h) (Or.inl ⟨by rfl, ?hy7⟩) ?_
                  case hy7 => intro w; go_simp; first | done | (with_reducible rfl)
                  simp only [Act.put, List.getElem_toArray, List.getElem_cons_zero, List.getElem_cons_succ, List.setIfInBounds_toArray, List.set_cons_zero, List.set_cons_succ]
                  refine wpAny_take (i := 8) (v := ?_) rfl (by kernel_rfl) (by kernel_rfl) (by kernel_rfl) (fun _ _ _ h => h) (Or.inl ⟨by rfl, ?hy8⟩) ?_
                  case hy8 => intro w; go_simp; first | done | (with_reducible rfl)
                  simp only [Act.put, List.getElem_toArray, List.getElem_cons_zero, List.getElem_cons_succ, List.setIfInBounds_toArray, List.set_cons_zero, List.set_cons_succ]
                  refine wpAny_take (i := 10) (v := ?_) rfl (by kernel_rfl) (by kernel_rfl) (by kernel_rfl) (fun _ _ _ h => h) (Or.inl ⟨by rfl, ?hy10⟩) ?_
                  case hy10 => intro w; go_simp; first | done | (with_reducible rfl)
                  simp only [Act.put, List.getElem_toArray, List.getElem_cons_zero, List.getElem_cons_succ, List.setIfInBounds_toArray, List.set_cons_zero, List.set_cons_succ]
                  refine wpAny_take (i := 11) (v := ?_) rfl (by kernel_rfl) (by kernel_rfl) (by kernel_rfl) (fun _ _ _ h => h) (Or.inl ⟨by rfl, ?hy11⟩) ?_
                  case hy11 => intro w; go_simp; first | done | (with_reducible rfl)
                  simp only [Act.put, List.getElem_toArray, List.getElem_cons_zero, List.getElem_cons_succ, List.setIfInBounds_toArray, List.set_cons_zero, List.set_cons_succ]
                  refine wpAny_take (i := 12) (v := ?_) rfl (by kernel_rfl) (by kernel_rfl) (by kernel_rfl) (fun _ _ _ h => h) (Or.inl ⟨by rfl, ?hy12⟩) ?_
                  case hy12 => intro w; go_simp; first | done | (with_reducible rfl)
                  simp only [Act.put, List.getElem_toArray, List.getElem_cons_zero, List.getElem_cons_succ, List.setIfInBounds_toArray, List.set_cons_zero, List.set_cons_succ]
                  refine wpAny_ready (rs := [9, 13]) (by kernel_rfl) (by simp) ?_
                  refine AllReady.cons rfl (fun K hK => ?_) (AllReady.cons rfl (fun K hK => ?_) AllReady.nil)
                  · rw [if_pos (by rfl)]
                    refine wp_load_mid 26 (.tmp 54) rfl g (m' * 32) rfl (idc xc) _ (HRTc.out.1) Yba.underlying26 rfl s1c ?_
                    refine hK _ _ ?_
                    clear hK K
                    simp only [Act.put, List.getElem_toArray, List.getElem_cons_zero, List.getElem_cons_succ, List.setIfInBounds_toArray, List.set_cons_zero, List.set_cons_succ]
                    refine wpAny_ready (rs := [13]) (by kernel_rfl) (by simp) ?_
                    refine AllReady.cons rfl (fun K hK => ?_) AllReady.nil
                    rw [if_pos (by rfl)]
                    refine wp_load_mid 26 (.tmp 58) rfl g (m * 32) rfl (idc yc) _ (HRTc.out.2.1) Yba.underlying26 rfl s0c ?_
                    refine hK _ _ ?_
                    clear hK K
                    simp only [Act.put, List.getElem_toArray, List.getElem_cons_zero, List.getElem_cons_succ, List.setIfInBounds_toArray, List.set_cons_zero, List.set_cons_succ]
                    refine wpAny_take (i := 14) (v := ?_) rfl (by kernel_rfl) (by kernel_rfl) (by kernel_rfl) (fun _ _ _ h => h) (Or.inl ⟨by rfl, ?hy14⟩) ?_
                    case hy14 => intro w; go_simp; first | done | (with_reducible rfl)
                    simp only [Act.put, List.getElem_toArray, List.getElem_cons_zero, List.getElem_cons_succ, List.setIfInBounds_toArray, List.set_cons_zero, List.set_cons_succ]
                    refine wpAny_ready (rs := [15]) (by kernel_rfl) (by simp) ?_
                    refine AllReady.cons rfl (fun K hK => ?_) AllReady.nil
                    rw [if_pos (by rfl)]
                    refine wp_store_mid 26 (.tmp 60) (.tmp 55) rfl g (m * 32) (idc xc).toArray rfl rfl (by rw [List.size_toArray, l1c]; exact HRTc.out.2.2.1) (by rw [List.size_toArray]; exact s1c) (by simpa using idc_one xc) ?_
                    refine hK _ _ ?_
                    clear hK K
                    simp only [Act.put, List.getElem_toArray, List.getElem_cons_zero, List.getElem_cons_succ, List.setIfInBounds_toArray, List.set_cons_zero, List.set_cons_succ]
                    refine wpAny_take (i := 16) (v := ?_) rfl (by kernel_rfl) (by kernel_rfl) (by kernel_rfl) (fun _ _ _ h => h) (Or.inl ⟨by rfl, ?hy16⟩) ?_
                    case hy16 => intro w; go_simp; first | done | (with_reducible rfl)
                    simp only [Act.put, List.getElem_toArray, List.getElem_cons_zero, List.getElem_cons_succ, List.setIfInBounds_toArray, List.set_cons_zero, List.set_cons_succ]
                    refine wpAny_ready (rs := [17]) (by kernel_rfl) (by simp) ?_
                    refine AllReady.cons rfl (fun K hK => ?_) AllReady.nil
                    rw [if_pos (by rfl)]
                    refine wp_store_mid 26 (.tmp 61) (.tmp 59) rfl g (m' * 32) (idc yc).toArray rfl rfl (by rw [List.size_toArray, l0c]; exact HRTc.out.2.2.2) (by rw [List.size_toArray]; exact s0c) (by simpa using idc_one yc) ?_
                    refine hK _ _ ?_
                    clear hK K
                    simp only [Act.put, List.getElem_toArray, List.getElem_cons_zero, List.getElem_cons_succ, List.setIfInBounds_toArray, List.set_cons_zero, List.set_cons_succ]
                    refine wpAny_done (by kernel_rfl) ?_ _
                    go_wp2
                    go_meet
                    exact ⟨HSWc.out, by rw [sc_size, sc_size]; exact Nat.le_refl _⟩
                  · rw [if_pos (by rfl)]
                    refine wp_load_mid 26 (.tmp 58) rfl g (m * 32) rfl (idc yc) _ (HRTc.out.2.1) Yba.underlying26 rfl s0c ?_
                    refine hK _ _ ?_
                    clear hK K
                    simp only [Act.put, List.getElem_toArray, List.getElem_cons_zero, List.getElem_cons_succ, List.setIfInBounds_toArray, List.set_cons_zero, List.set_cons_succ]
                    refine wpAny_ready (rs := [9]) (by kernel_rfl) (by simp) ?_
                    refine AllReady.cons rfl (fun K hK => ?_) AllReady.nil
                    rw [if_pos (by rfl)]
                    refine wp_load_mid 26 (.tmp 54) rfl g (m' * 32) rfl (idc xc) _ (HRTc.out.1) Yba.underlying26 rfl s1c ?_
                    refine hK _ _ ?_
                    clear hK K
                    simp only [Act.put, List.getElem_toArray, List.getElem_cons_zero, List.getElem_cons_succ, List.setIfInBounds_toArray, List.set_cons_zero, List.set_cons_succ]
                    refine wpAny_take (i := 14) (v := ?_) rfl (by kernel_rfl) (by kernel_rfl) (by kernel_rfl) (fun _ _ _ h => h) (Or.inl ⟨by rfl, ?hy14⟩) ?_
                    case hy14 => intro w; go_simp; first | done | (with_reducible rfl)
                    simp only [Act.put, List.getElem_toArray, List.getElem_cons_zero, List.getElem_cons_succ, List.setIfInBounds_toArray, List.set_cons_zero, List.set_cons_succ]
                    refine wpAny_ready (rs := [15]) (by kernel_rfl) (by simp) ?_
                    refine AllReady.cons rfl (fun K hK => ?_) AllReady.nil
                    rw [if_pos (by rfl)]
                    refine wp_store_mid 26 (.tmp 60) (.tmp 55) rfl g (m * 32) (idc xc).toArray rfl rfl (by rw [List.size_toArray, l1c]; exact HRTc.out.2.2.1) (by rw [List.size_toArray]; exact s1c) (by simpa using idc_one xc) ?_
                    refine hK _ _ ?_
                    clear hK K
                    simp only [Act.put, List.getElem_toArray, List.getElem_cons_zero, List.getElem_cons_succ, List.setIfInBounds_toArray, List.set_cons_zero, List.set_cons_succ]
                    refine wpAny_take (i := 16) (v := ?_) rfl (by kernel_rfl) (by kernel_rfl) (by kernel_rfl) (fun _ _ _ h => h) (Or.inl ⟨by rfl, ?hy16⟩) ?_
                    case hy16 => intro w; go_simp; first | done | (with_reducible rfl)
                    simp only [Act.put, List.getElem_toArray, List.getElem_cons_zero, List.getElem_cons_succ, List.setIfInBounds_toArray, List.set_cons_zero, List.set_cons_succ]
                    refine wpAny_ready (rs := [17]) (by kernel_rfl) (by simp) ?_
                    refine AllReady.cons rfl (fun K hK => ?_) AllReady.nil
                    rw [if_pos (by rfl)]
                    refine wp_store_mid 26 (.tmp 61) (.tmp 59) rfl g (m' * 32) (idc yc).toArray rfl rfl (by rw [List.size_toArray, l0c]; exact HRTc.out.2.2.2) (by rw [List.size_toArray]; exact s0c) (by simpa using idc_one yc) ?_
                    refine hK _ _ ?_
                    clear hK K
                    simp only [Act.put, List.getElem_toArray, List.getElem_cons_zero, List.getElem_cons_succ, List.setIfInBounds_toArray, List.set_cons_zero, List.set_cons_succ]
                    refine wpAny_done (by kernel_rfl) ?_ _
                    go_wp2
                    go_meet
                    exact ⟨HSWc.out, by rw [sc_size, sc_size]; exact Nat.le_refl _⟩
                case rest =>
                  have HSc := hide hcut.1
                  have hgc : g < wc.heap.size := by have := hcut.2; have := hgb; omega
                  skip
                  clear hcut HSWc HRTc
                  obtain ⟨d1, hd1⟩ : ∃ d1, d1 = Sort.swp dk m m' := ⟨_, rfl⟩
                  rw [← hd1] at HSc
                  have hdk1 : d1.size = d.size := by rw [hd1, size_swp']; exact hdk
                  obtain ⟨d2, hd2⟩ : ∃ d2, d2 = if m - a ≥ 2 then Sort.shiftDown Sort.ltStr m' d1 else d1 := ⟨_, rfl⟩
                  have hdk2 : d2.size = d.size := by
                    rw [hd2]; split
                    · rw [size_sdn]; exact hdk1
                    · exact hdk1
                  have HGO := hide (fun d3 h3 => pi_go' a b s i m m' dk d1 d2 d3 hs5 HK.out HM'.out hmb (by have := HL0.out; omega) hd1 hd2 h3)
                  have HD2 := hide hd2
                  obtain ⟨q, hq⟩ : ∃ q, q = m - a := ⟨_, rfl⟩
                  have z6 : IntKind.i64.wrap ((m : Int) - (a : Int)) = q := by rw [wrap_in _ (by omega) (by omega)]; omega
                  obtain ⟨q', hq'⟩ : ∃ q', q' = b - m := ⟨_, rfl⟩
                  have z7 : IntKind.i64.wrap ((b : Int) - (m : Int)) = q' := by rw [wrap_in _ (by omega) (by omega)]; omega
                  have HQ := hide (And.intro hq hq')
                  clear hd1 hd2 hq hq'
                  obtain ⟨W2, rfl⟩ : ∃ W2, W2 = wc := ⟨_, rfl⟩
                  go_upto_if 65 with fail
                  go_cut [11] (fun _ wc => SR w g d2 wc ∧ g < wc.heap.size)
                  case first =>
                    by_cases hq2 : 2 ≤ q
                    · have z8 : (2 : Int) ≤ q := by omega
                      have HD3 : Hid (d2 = Sort.shiftDown Sort.ltStr m' d1) := ⟨by rw [HD2.out]; exact if_pos (by have := HQ.out.1; omega)⟩
                      go_wp2_with fail
                      go_loopw [11] (fun v wr => ∃ (j : Nat) (dj : Array ID), j ≤ m' ∧ v = .int .i64 j ∧ dj.size = d.size ∧ SR w g dj wr ∧ Sort.shiftDown Sort.ltStr j dj = d2) (fun v _ => (intOf v).toNat)
                      case atStart => exact ⟨m', d1, Nat.le_refl _, rfl, hdk1, HSc.out, HD3.out.symm⟩
                      case round =>
                        obtain ⟨j, dj, hj1, rfl, hdj, hSj, hEj⟩ := hrel
                        have hgj : g < wr.heap.size := by have := hSj.fw.size; omega
                        have HJ := hide (And.intro hSj hEj)
                        clear hSj hEj
                        obtain ⟨Wj, rfl⟩ : ∃ W, W = wr := ⟨_, rfl⟩
                        by_cases hj0 : 1 ≤ j
                        · have z9 : (1 : Int) ≤ j := by omega
                          obtain ⟨j', hj'⟩ : ∃ j', j = j' + 1 := ⟨j - 1, by omega⟩
                          have z10 : IntKind.i64.wrap ((j : Int) - 1) = j' := by rw [wrap_in _ (by omega) (by omega)]; omega
                          have HST := hide (sdn_step j j' dj hj')
                          have hj3 : j' < j := by omega
                          clear hj'
                          have r1d := HJ.out.1.row j (by omega)
                          have r0d := HJ.out.1.row j' (by omega)
                          have o1d := HJ.out.1.ok j (by omega)
                          have o0d := HJ.out.1.ok j' (by omega)
                          obtain ⟨xd, hxd⟩ : ∃ x, x = dj[j]! := ⟨_, rfl⟩
                          obtain ⟨yd, hyd⟩ : ∃ y, y = dj[j']! := ⟨_, rfl⟩
                          rw [← hxd] at r1d o1d
                          rw [← hyd] at r0d o0d
                          have b1d : ((j : Nat) : Int) < d.size := by omega
                          have b0d : ((j' : Nat) : Int) < d.size := by omega
                          have b3d : j < d.size := by omega
                          have b2d : j' < d.size := by omega
                          have s1d : (Yba.prog.info? 26).map (·.size) = some (idc xd).length := by rw [idc_len, o1d]; exact info26
                          have s0d : (Yba.prog.info? 26).map (·.size) = some (idc yd).length := by rw [idc_len, o0d]; exact info26
                          have HXd := hide (And.intro hxd hyd)
                          have HRd := hide (And.intro r1d r0d)
                          clear hxd hyd r1d r0d
                          go_upto_region 16 with fail
                          go_cut [84] (fun s wc => s = .bool (!Sort.ltStr xd yd) ∧ Below Wj.heap.size Wj wc)
                          case first =>
                            go_wp2_with fail
                            refine wp_region_held_drew (S := fun w' => w'.rangeAt g (j * 32) (idc xd) ∧ w'.rangeAt g (j' * 32) (idc yd)) (by kernel_rfl) (R2 HRd.out.1 HRd.out.2 hgj ((Below.refl _ _).drew)) (fun hHeld => ?_)
                            refine wpAnyH_take (i := 0) (v := ?_) rfl (by kernel_rfl) (by kernel_rfl) (by kernel_rfl) (fun _ _ _ h => h) (Or.inl ⟨by rfl, ?hy0⟩) hHeld ?_
                            case hy0 => intro w hSw; go_simp; first | done | (with_reducible rfl)
                            simp only [Act.put, List.getElem_toArray, List.getElem_cons_zero, List.getElem_cons_succ, List.setIfInBounds_toArray, List.set_cons_zero, List.set_cons_succ]
                            refine wpAnyH_take (i := 1) (v := ?_) rfl (by kernel_rfl) (by kernel_rfl) (by kernel_rfl) (fun _ _ _ h => h) (Or.inl ⟨by rfl, ?hy1⟩) hHeld ?_
                            case hy1 => intro w hSw; go_simp; first | done | (with_reducible rfl)
                            simp only [Act.put, List.getElem_toArray, List.getElem_cons_zero, List.getElem_cons_succ, List.setIfInBounds_toArray, List.set_cons_zero, List.set_cons_succ]
                            refine wpAnyH_take (i := 2) (v := ?_) rfl (by kernel_rfl) (by kernel_rfl) (by kernel_rfl) (fun _ _ _ h => h) (Or.inl ⟨by rfl, ?hy2⟩) hHeld ?_
                            case hy2 => intro w hSw; go_simp; first | done | (with_reducible rfl)
                            simp only [Act.put, List.getElem_toArray, List.getElem_cons_zero, List.getElem_cons_succ, List.setIfInBounds_toArray, List.set_cons_zero, List.set_cons_succ]
                            refine wpAnyH_take (i := 3) (v := ?_) rfl (by kernel_rfl) (by kernel_rfl) (by kernel_rfl) (fun _ _ _ h => h) (Or.inl ⟨by rfl, ?hy3⟩) hHeld ?_
                            case hy3 => intro w hSw; go_simp; first | done | (with_reducible rfl)
                            simp only [Act.put, List.getElem_toArray, List.getElem_cons_zero, List.getElem_cons_succ, List.setIfInBounds_toArray, List.set_cons_zero, List.set_cons_succ]
                            refine wpAnyH_take (i := 4) (v := _) rfl (by kernel_rfl) (by kernel_rfl) (by kernel_rfl) (fun _ _ _ h => h) (yieldsIf_load_mid (by rfl) 26 (.tmp 75) rfl g (j * 32) rfl (idc xd) _ (fun _ h => h.1) Yba.underlying26 rfl s1d) hHeld ?_
                            simp only [Act.put, List.getElem_toArray, List.getElem_cons_zero, List.getElem_cons_succ, List.setIfInBounds_toArray, List.set_cons_zero, List.set_cons_succ]
                            refine wpAnyH_take (i := 5) (v := ?_) rfl (by kernel_rfl) (by kernel_rfl) (by kernel_rfl) (fun _ _ _ h => h) (Or.inl ⟨by rfl, ?hy5⟩) hHeld ?_
                            case hy5 => intro w hSw; go_simp; first | done | (with_reducible rfl)
                            simp only [Act.put, List.getElem_toArray, List.getElem_cons_zero, List.getElem_cons_succ, List.setIfInBounds_toArray, List.set_cons_zero, List.set_cons_succ]
                            refine wpAnyH_take (i := 6) (v := ?_) rfl (by kernel_rfl) (by kernel_rfl) (by kernel_rfl) (fun _ _ _ h => h) (Or.inl ⟨by rfl, ?hy6⟩) hHeld ?_
                            case hy6 => intro w hSw; go_simp; first | done | (with_reducible rfl)
                            simp only [Act.put, List.getElem_toArray, List.getElem_cons_zero, List.getElem_cons_succ, List.setIfInBounds_toArray, List.set_cons_zero, List.set_cons_succ]
                            refine wpAnyH_take (i := 7) (v := ?_) rfl (by kernel_rfl) (by kernel_rfl) (by kernel_rfl) (fun _ _ _ h => h) (Or.inl ⟨by rfl, ?hy7⟩) hHeld ?_
                            case hy7 => intro w hSw; go_simp; first | done | (with_reducible rfl)
                            simp only [Act.put, List.getElem_toArray, List.getElem_cons_zero, List.getElem_cons_succ, List.setIfInBounds_toArray, List.set_cons_zero, List.set_cons_succ]
                            refine wpAnyH_take (i := 8) (v := ?_) rfl (by kernel_rfl) (by kernel_rfl) (by kernel_rfl) (fun _ _ _ h => h) (Or.inl ⟨by rfl, ?hy8⟩) hHeld ?_
                            case hy8 => intro w hSw; go_simp; first | done | (with_reducible rfl)
                            simp only [Act.put, List.getElem_toArray, List.getElem_cons_zero, List.getElem_cons_succ, List.setIfInBounds_toArray, List.set_cons_zero, List.set_cons_succ]
                            refine wpAnyH_take (i := 9) (v := _) rfl (by kernel_rfl) (by kernel_rfl) (by kernel_rfl) (fun _ _ _ h => h) (yieldsIf_load_mid (by rfl) 26 (.tmp 80) rfl g (j' * 32) rfl (idc yd) _ (fun _ h => h.2) Yba.underlying26 rfl s0d) hHeld ?_
                            simp only [Act.put, List.getElem_toArray, List.getElem_cons_zero, List.getElem_cons_succ, List.setIfInBounds_toArray, List.set_cons_zero, List.set_cons_succ]
                            refine wpAnyH_ready (rs := [10]) (by kernel_rfl) (by simp) ?_
                            refine AllReadyH.cons rfl (fun K hK => ?_) AllReadyH.nil
                            rw [if_pos (by rfl)]
                            go_simp
                            refine (order_any xd yd _ o1d o0d).mono ?_
                            rintro e w5 ⟨⟨cc, rfl, hcc⟩, hw5⟩; have HB5 := hide (un_drew hw5); have HC5 := hide hcc; clear hw5 hcc
                            clear hHeld
                            refine hK.out _ _ (R2 HRd.out.1 HRd.out.2 hgj HB5.out) (fun hHeld => ?_)
                            clear hK K
                            refine wpAnyH_take (i := 11) (v := ?_) rfl (by kernel_rfl) (by kernel_rfl) (by kernel_rfl) (fun _ _ _ h => h) (Or.inl ⟨by rfl, ?hy11⟩) hHeld ?_
                            case hy11 => intro w hSw; go_simp; first | done | (with_reducible rfl)
                            simp only [Act.put, List.getElem_toArray, List.getElem_cons_zero, List.getElem_cons_succ, List.setIfInBounds_toArray, List.set_cons_zero, List.set_cons_succ]
                            refine wpAnyH_take (i := 12) (v := ?_) rfl (by kernel_rfl) (by kernel_rfl) (by kernel_rfl) (fun _ _ _ h => h) (Or.inl ⟨by rfl, ?hy12⟩) hHeld ?_
                            case hy12 => intro w hSw; go_simp; first | done | (with_reducible rfl)
                            simp only [Act.put, List.getElem_toArray, List.getElem_cons_zero, List.getElem_cons_succ, List.setIfInBounds_toArray, List.set_cons_zero, List.set_cons_succ]
                            refine wpAnyH_done (by kernel_rfl) ?_ _
                            go_wp2
                            go_meet
                            have HL : Sort.ltStr xd yd = decide (cc < 0) := (decide_eq_decide.2 HC5.out).symm
                            exact ⟨by first | (rw [HL]; done) | (simp [HL]; done), HB5.out⟩
                          case rest =>
                            obtain ⟨hs, hbc⟩ := hcut
                            subst hs
                            have HSd := hide (HJ.out.1.below hgj hbc)
                            have hgd : g < wc.heap.size := by have := hbc.size; have := hgj; omega
                            clear hbc
                            clear HRd
                            generalize hbb : Sort.ltStr xd yd = bb
                            have HBB := hide hbb
                            clear hbb
                            cases bb with
                            | true =>
                              have HO2 : Hid (Sort.shiftDown Sort.ltStr j' (Sort.swp dj j j') = d2) := ⟨by
                                have h := HST.out
                                rw [← HXd.out.1, ← HXd.out.2, HBB.out, if_pos rfl, HJ.out.2] at h
                                exact h.symm⟩
                              obtain ⟨W3, rfl⟩ : ∃ W3, W3 = wc := ⟨_, rfl⟩
                              have hSde := HSd.out.below hgd ((Below.refl _ _).drew)
                              have HSWe := hSde.swap (i := j) (j := j') (by omega) (by omega)
                              have r1e := hSde.row j' (by omega)
                              have r0e := hSde.row j (by omega)
                              have o1e := hSde.ok j' (by omega)
                              have o0e := hSde.ok j (by omega)
                              have t0e := hSde.there (x := j) (by omega)
                              have t1e := (hSde.store (i := j) (by omega) dj[j']! o1e).there (x := j') (by rw [Array.size_setIfInBounds]; omega)
                              obtain ⟨xe, hxe⟩ : ∃ x, x = dj[j']! := ⟨_, rfl⟩
                              obtain ⟨ye, hye⟩ : ∃ y, y = dj[j]! := ⟨_, rfl⟩
                              rw [← hxe] at r1e o1e t1e
                              rw [← hye] at r0e o0e
                              rw [← hxe, ← hye] at HSWe
                              have HSWe := hide HSWe
                              have b1e : ((j' : Nat) : Int) < d.size := by omega
                              have b0e : ((j : Nat) : Int) < d.size := by omega
                              have b3e : j' < d.size := by omega
                              have b2e : j < d.size := by omega
                              have s1e : (Yba.prog.info? 26).map (·.size) = some (idc xe).length := by rw [idc_len, o1e]; exact info26
                              have s0e : (Yba.prog.info? 26).map (·.size) = some (idc ye).length := by rw [idc_len, o0e]; exact info26
                              have l1e : (idc xe).length = 32 := by rw [idc_len, o1e]
                              have l0e : (idc ye).length = 32 := by rw [idc_len, o0e]
                              have HRTe := hide (And.intro r1e (And.intro r0e (And.intro t0e t1e)))
                              clear hxe hye r1e r0e t0e t1e hSde
                              go_upto_region 17 with fail

                              

                              refine wp_region_any (by kernel_rfl) ?_
                              change wpAny _ _ _ _ _ _ _ (World.drew _)
                              refine wpAny_take (i := 0) (v := ?_) rfl (by kernel_rfl) (by kernel_rfl) (by kernel_rfl) (fun _ _ _ h => h) (Or.inl ⟨by rfl, ?hy0⟩) ?_
                              case hy0 => intro w; go_simp; first | done | (with_reducible rfl)
                              simp only [Act.put, List.getElem_toArray, List.getElem_cons_zero, List.getElem_cons_succ, List.setIfInBounds_toArray, List.set_cons_zero, List.set_cons_succ]
                              refine wpAny_take (i := 1) (v := ?_) rfl (by kernel_rfl) (by kernel_rfl) (by kernel_rfl) (fun _ _ _ h => h) (Or.inl ⟨by rfl, ?hy1⟩) ?_
                              case hy1 => intro w; go_simp; first | done | (with_reducible rfl)
                              simp only [Act.put, List.getElem_toArray, List.getElem_cons_zero, List.getElem_cons_succ, List.setIfInBounds_toArray, List.set_cons_zero, List.set_cons_succ]
                              refine wpAny_take (i := 2) (v := ?_) rfl (by kernel_rfl) (by kernel_rfl) (by kernel_rfl) (fun _ _ _ h => h) (Or.inl ⟨by rfl, ?hy2⟩) ?_
                              case hy2 => intro w; go_simp; first | done | (with_reducible rfl)
                              simp only [Act.put, List.getElem_toArray, List.getElem_cons_zero, List.getElem_cons_succ, List.setIfInBounds_toArray, List.set_cons_zero, List.set_cons_succ]
                              refine wpAny_take (i := 3) (v := ?_) rfl (by kernel_rfl) (by kernel_rfl) (by kernel_rfl) (fun _ _ _ h => h) (Or.inl ⟨by rfl, ?hy3⟩) ?_
                              case hy3 => intro w; go_simp; first | done | (with_reducible rfl)
                              simp only [Act.put, List.getElem_toArray, List.getElem_cons_zero, List.getElem_cons_succ, List.setIfInBounds_toArray, List.set_cons_zero, List.set_cons_succ]
                              refine wpAny_take (i := 4) (v := ?_) rfl (by kernel_rfl) (by kernel_rfl) (by kernel_rfl) (fun _ _ _ h => h) (Or.inl ⟨by rfl, ?hy4⟩) ?_
                              case hy4 => intro w; go_simp; first | done | (with_reducible rfl)
                              simp only [Act.put, List.getElem_toArray, List.getElem_cons_zero, List.getElem_cons_succ, List.setIfInBounds_toArray, List.set_cons_zero, List.set_cons_succ]
                              refine wpAny_take (i := 5) (v := ?_) rfl (by kernel_rfl) (by kernel_rfl) (by kernel_rfl) (fun _ _ _ h => h) (Or.inl ⟨by rfl, ?hy5⟩) ?_
                              case hy5 => intro w; go_simp; first | done | (with_reducible rfl)
                              simp only [Act.put, List.getElem_toArray, List.getElem_cons_zero, List.getElem_cons_succ, List.setIfInBounds_toArray, List.set_cons_zero, List.set_cons_succ]
                              refine wpAny_take (i := 6) (v := ?_) rfl (by kernel_rfl) (by kernel_rfl) (by kernel_rfl) (fun _ _ _ h => h) (Or.inl ⟨by rfl, ?hy6⟩) ?_
                              case hy6 => intro w; go_simp; first | done | (with_reducible rfl)
                              simp only [Act.put, List.getElem_toArray, List.getElem_cons_zero, List.getElem_cons_succ, List.setIfInBounds_toArray, List.set_cons_zero, List.set_cons_succ]
                              refine wpAny_take (i := 7) (v := ?_) rfl (by kernel_rfl) (by kernel_rfl) (by kernel_rfl) (fun _ _ _ h => h) (Or.inl ⟨by rfl, ?hy7⟩) ?_
                              case hy7 => intro w; go_simp; first | done | (with_reducible rfl)
                              simp only [Act.put, List.getElem_toArray, List.getElem_cons_zero, List.getElem_cons_succ, List.setIfInBounds_toArray, List.set_cons_zero, List.set_cons_succ]
                              refine wpAny_take (i := 8) (v := ?_) rfl (by kernel_rfl) (by kernel_rfl) (by kernel_rfl) (fun _ _ _ h => h) (Or.inl ⟨by rfl, ?hy8⟩) ?_
                              case hy8 => intro w; go_simp; first | done | (with_reducible rfl)
                              simp only [Act.put, List.getElem_toArray, List.getElem_cons_zero, List.getElem_cons_succ, List.setIfInBounds_toArray, List.set_cons_zero, List.set_cons_succ]
                              refine wpAny_take (i := 10) (v := ?_) rfl (by kernel_rfl) (by kernel_rfl) (by kernel_rfl) (fun _ _ _ h => h) (Or.inl ⟨by rfl, ?hy10⟩) ?_
                              case hy10 => intro w; go_simp; first | done | (with_reducible rfl)
                              simp only [Act.put, List.getElem_toArray, List.getElem_cons_zero, List.getElem_cons_succ, List.setIfInBounds_toArray, List.set_cons_zero, List.set_cons_succ]
                              refine wpAny_take (i := 11) (v := ?_) rfl (by kernel_rfl) (by kernel_rfl) (by kernel_rfl) (fun _ _ _ h => h) (Or.inl ⟨by rfl, ?hy11⟩) ?_
                              case hy11 => intro w; go_simp; first | done | (with_reducible rfl)
                              simp only [Act.put, List.getElem_toArray, List.getElem_cons_zero, List.getElem_cons_succ, List.setIfInBounds_toArray, List.set_cons_zero, List.set_cons_succ]
                              refine wpAny_take (i := 12) (v := ?_) rfl (by kernel_rfl) (by kernel_rfl) (by kernel_rfl) (fun _ _ _ h => h) (Or.inl ⟨by rfl, ?hy12⟩) ?_
                              case hy12 => intro w; go_simp; first | done | (with_reducible rfl)
                              simp only [Act.put, List.getElem_toArray, List.getElem_cons_zero, List.getElem_cons_succ, List.setIfInBounds_toArray, List.set_cons_zero, List.set_cons_succ]
                              refine wpAny_ready (rs := [9, 13]) (by kernel_rfl) (by simp) ?_
                              refine AllReady.cons rfl (fun K hK => ?_) (AllReady.cons rfl (fun K hK => ?_) AllReady.nil)
                              · rw [if_pos (by rfl)]
                                refine wp_load_mid 26 (.tmp 93) rfl g (j' * 32) rfl (idc xe) _ (HRTe.out.1) Yba.underlying26 rfl s1e ?_
                                refine hK _ _ ?_
                                clear hK K
                                simp only [Act.put, List.getElem_toArray, List.getElem_cons_zero, List.getElem_cons_succ, List.setIfInBounds_toArray, List.set_cons_zero, List.set_cons_succ]
                                refine wpAny_ready (rs := [13]) (by kernel_rfl) (by simp) ?_
                                refine AllReady.cons rfl (fun K hK => ?_) AllReady.nil
                                rw [if_pos (by rfl)]
                                refine wp_load_mid 26 (.tmp 97) rfl g (j * 32) rfl (idc ye) _ (HRTe.out.2.1) Yba.underlying26 rfl s0e ?_
                                refine hK _ _ ?_
                                clear hK K
                                simp only [Act.put, List.getElem_toArray, List.getElem_cons_zero, List.getElem_cons_succ, List.setIfInBounds_toArray, List.set_cons_zero, List.set_cons_succ]
                                refine wpAny_take (i := 14) (v := ?_) rfl (by kernel_rfl) (by kernel_rfl) (by kernel_rfl) (fun _ _ _ h => h) (Or.inl ⟨by rfl, ?hy14⟩) ?_
                                case hy14 => intro w; go_simp; first | done | (with_reducible rfl)
                                simp only [Act.put, List.getElem_toArray, List.getElem_cons_zero, List.getElem_cons_succ, List.setIfInBounds_toArray, List.set_cons_zero, List.set_cons_succ]
                                refine wpAny_ready (rs := [15]) (by kernel_rfl) (by simp) ?_
                                refine AllReady.cons rfl (fun K hK => ?_) AllReady.nil
                                rw [if_pos (by rfl)]
                                refine wp_store_mid 26 (.tmp 99) (.tmp 94) rfl g (j * 32) (idc xe).toArray rfl rfl (by rw [List.size_toArray, l1e]; exact HRTe.out.2.2.1) (by rw [List.size_toArray]; exact s1e) (by simpa using idc_one xe) ?_
                                refine hK _ _ ?_
                                clear hK K
                                simp only [Act.put, List.getElem_toArray, List.getElem_cons_zero, List.getElem_cons_succ, List.setIfInBounds_toArray, List.set_cons_zero, List.set_cons_succ]
                                refine wpAny_take (i := 16) (v := ?_) rfl (by kernel_rfl) (by kernel_rfl) (by kernel_rfl) (fun _ _ _ h => h) (Or.inl ⟨by rfl, ?hy16⟩) ?_
                                case hy16 => intro w; go_simp; first | done | (with_reducible rfl)
                                simp only [Act.put, List.getElem_toArray, List.getElem_cons_zero, List.getElem_cons_succ, List.setIfInBounds_toArray, List.set_cons_zero, List.set_cons_succ]
                                refine wpAny_ready (rs := [17]) (by kernel_rfl) (by simp) ?_
                                refine AllReady.cons rfl (fun K hK => ?_) AllReady.nil
                                rw [if_pos (by rfl)]
                                refine wp_store_mid 26 (.tmp 100) (.tmp 98) rfl g (j' * 32) (idc ye).toArray rfl rfl (by rw [List.size_toArray, l0e]; exact HRTe.out.2.2.2) (by rw [List.size_toArray]; exact s0e) (by simpa using idc_one ye) ?_
                                refine hK _ _ ?_
                                clear hK K
                                simp only [Act.put, List.getElem_toArray, List.getElem_cons_zero, List.getElem_cons_succ, List.setIfInBounds_toArray, List.set_cons_zero, List.set_cons_succ]
                                refine wpAny_done (by kernel_rfl) ?_ _
                                obtain ⟨wc, hcut⟩ : ∃ wc, SR w g (Sort.swp dj j j') wc ∧ W3.heap.size ≤ wc.heap.size ∧ wc = ((W3.drew.setCells g (j * 32) (idc xe)).setCells g (j' * 32) (idc ye)) := ⟨_, HSWe.out, by rw [sc_size, sc_size]; exact Nat.le_refl _, rfl⟩
                                rw [← hcut.2.2]
                                have HSe := hide hcut.1
                                have hge : g < wc.heap.size := by have := hcut.2.1; have := hgd; omega
                                skip
                                clear hcut HSWe HRTe
                                go_wp2
                                go_roundw
                                case rel => exact ⟨j', Sort.swp dj j j', by omega, by go_num, by rw [size_swp']; exact hdj, HSe.out, HO2.out⟩
                                case measure => simp [intOf] <;> omega
                              · rw [if_pos (by rfl)]
                                refine wp_load_mid 26 (.tmp 97) rfl g (j * 32) rfl (idc ye) _ (HRTe.out.2.1) Yba.underlying26 rfl s0e ?_
                                refine hK _ _ ?_
                                clear hK K
                                simp only [Act.put, List.getElem_toArray, List.getElem_cons_zero, List.getElem_cons_succ, List.setIfInBounds_toArray, List.set_cons_zero, List.set_cons_succ]
                                refine wpAny_ready (rs := [9]) (by kernel_rfl) (by simp) ?_
                                refine AllReady.cons rfl (fun K hK => ?_) AllReady.nil
                                rw [if_pos (by rfl)]
                                refine wp_load_mid 26 (.tmp 93) rfl g (j' * 32) rfl (idc xe) _ (HRTe.out.1) Yba.underlying26 rfl s1e ?_
                                refine hK _ _ ?_
                                clear hK K
                                simp only [Act.put, List.getElem_toArray, List.getElem_cons_zero, List.getElem_cons_succ, List.setIfInBounds_toArray, List.set_cons_zero, List.set_cons_succ]
                                refine wpAny_take (i := 14) (v := ?_) rfl (by kernel_rfl) (by kernel_rfl) (by kernel_rfl) (fun _ _ _ h => h) (Or.inl ⟨by rfl, ?hy14⟩) ?_
                                case hy14 => intro w; go_simp; first | done | (with_reducible rfl)
                                simp only [Act.put, List.getElem_toArray, List.getElem_cons_zero, List.getElem_cons_succ, List.setIfInBounds_toArray, List.set_cons_zero, List.set_cons_succ]
                                refine wpAny_ready (rs := [15]) (by kernel_rfl) (by simp) ?_
                                refine AllReady.cons rfl (fun K hK => ?_) AllReady.nil
                                rw [if_pos (by rfl)]
                                refine wp_store_mid 26 (.tmp 99) (.tmp 94) rfl g (j * 32) (idc xe).toArray rfl rfl (by rw [List.size_toArray, l1e]; exact HRTe.out.2.2.1) (by rw [List.size_toArray]; exact s1e) (by simpa using idc_one xe) ?_
                                refine hK _ _ ?_
                                clear hK K
                                simp only [Act.put, List.getElem_toArray, List.getElem_cons_zero, List.getElem_cons_succ, List.setIfInBounds_toArray, List.set_cons_zero, List.set_cons_succ]
                                refine wpAny_take (i := 16) (v := ?_) rfl (by kernel_rfl) (by kernel_rfl) (by kernel_rfl) (fun _ _ _ h => h) (Or.inl ⟨by rfl, ?hy16⟩) ?_
                                case hy16 => intro w; go_simp; first | done | (with_reducible rfl)
                                simp only [Act.put, List.getElem_toArray, List.getElem_cons_zero, List.getElem_cons_succ, List.setIfInBounds_toArray, List.set_cons_zero, List.set_cons_succ]
                                refine wpAny_ready (rs := [17]) (by kernel_rfl) (by simp) ?_
                                refine AllReady.cons rfl (fun K hK => ?_) AllReady.nil
                                rw [if_pos (by rfl)]
                                refine wp_store_mid 26 (.tmp 100) (.tmp 98) rfl g (j' * 32) (idc ye).toArray rfl rfl (by rw [List.size_toArray, l0e]; exact HRTe.out.2.2.2) (by rw [List.size_toArray]; exact s0e) (by simpa using idc_one ye) ?_
                                refine hK _ _ ?_
                                clear hK K
                                simp only [Act.put, List.getElem_toArray, List.getElem_cons_zero, List.getElem_cons_succ, List.setIfInBounds_toArray, List.set_cons_zero, List.set_cons_succ]
                                refine wpAny_done (by kernel_rfl) ?_ _
                                obtain ⟨wc, hcut⟩ : ∃ wc, SR w g (Sort.swp dj j j') wc ∧ W3.heap.size ≤ wc.heap.size ∧ wc = ((W3.drew.setCells g (j * 32) (idc xe)).setCells g (j' * 32) (idc ye)) := ⟨_, HSWe.out, by rw [sc_size, sc_size]; exact Nat.le_refl _, rfl⟩
                                rw [← hcut.2.2]
                                have HSe := hide hcut.1
                                have hge : g < wc.heap.size := by have := hcut.2.1; have := hgd; omega
                                skip
                                clear hcut HSWe HRTe
                                go_wp2
                                go_roundw
                                case rel => exact ⟨j', Sort.swp dj j j', by omega, by go_num, by rw [size_swp']; exact hdj, HSe.out, HO2.out⟩
                                case measure => simp [intOf] <;> omega
                            | false =>
                              have HF : Hid (SR w g d2 wc) := ⟨by
                                have h := HST.out
                                rw [← HXd.out.1, ← HXd.out.2, HBB.out, if_neg Bool.false_ne_true, HJ.out.2] at h
                                rw [h]
                                exact HSd.out⟩
                              go_wp2
                              go_meet
                              exact ⟨HF.out, hgd⟩
                        · have z9 : ¬ (1 : Int) ≤ j := by omega
                          have HF : Hid (SR w g d2 Wj) := ⟨by
                            have e : j = 0 := by omega
                            rw [← HJ.out.2, e]
                            exact HJ.out.1⟩
                          go_wp2
                          go_meet
                          exact ⟨HF.out, hgj⟩
                    · have z8 : ¬ (2 : Int) ≤ q := by omega
                      have HD3 : Hid (d2 = d1) := ⟨by rw [HD2.out]; exact if_neg (by have := HQ.out.1; omega)⟩
                      go_wp2
                      go_meet
                      exact ⟨by rw [HD3.out]; exact HSc.out, hgc⟩
                  case rest =>
                    have HSf := hide hcut.1
                    have hgf := hcut.2
                    clear hcut HSc HSb HD2
                    obtain ⟨W4, rfl⟩ : ∃ W4, W4 = wc := ⟨_, rfl⟩
                    by_cases hq2 : 2 ≤ q'
                    · have z8 : (2 : Int) ≤ q' := by omega
                      have HG2 : Hid (Sort.partialIns Sort.ltStr a b (5 - (s + 1)) m (Sort.shiftUp Sort.ltStr b (m + 1) d2) = Sort.partialInsertionSort Sort.ltStr d a b) := ⟨by
                        rw [← HS.out.2, HGO.out (Sort.shiftUp Sort.ltStr b (m + 1) d2) (if_pos (by have := HQ.out.2; omega)).symm]⟩
                      obtain ⟨d3, hd3⟩ : ∃ d3, d3 = Sort.shiftUp Sort.ltStr b (m + 1) d2 := ⟨_, rfl⟩
                      rw [← hd3] at HG2
                      have HD3 := hide hd3
                      clear hd3
                      have hw2 := wrap_in ((m : Int) + 1) (by omega) (by omega)
                      go_wp2_with fail
                      go_loopw [12] (fun v wr => ∃ (j : Nat) (dj : Array ID), m + 1 ≤ j ∧ j ≤ b ∧ v = .int .i64 j ∧ dj.size = d.size ∧ SR w g dj wr ∧ Sort.shiftUp Sort.ltStr b j dj = d3) (fun v _ => ((b : Int) - intOf v).toNat)
                      case atStart => exact ⟨m + 1, d2, Nat.le_refl _, by omega, by go_num, hdk2, HSf.out, HD3.out.symm⟩
                      case round =>
                        obtain ⟨j, dj, hj1, hj2, rfl, hdj, hSj, hEj⟩ := hrel
                        have hgj : g < wr.heap.size := by have := hSj.fw.size; omega
                        have HJ := hide (And.intro hSj hEj)
                        clear hSj hEj
                        obtain ⟨Wj, rfl⟩ : ∃ W, W = wr := ⟨_, rfl⟩
                        by_cases hjb : j < b
                        · have z9 : (j : Int) < b := by omega
                          obtain ⟨j', hj'⟩ : ∃ j', j' = j - 1 := ⟨_, rfl⟩
                          have z10 : IntKind.i64.wrap ((j : Int) - 1) = j' := by rw [wrap_in _ (by omega) (by omega)]; omega
                          have z11 := wrap_in ((j : Int) + 1) (by omega) (by omega)
                          have HST := hide (sup_step b j j' dj hj' hjb)
                          have hj3 : j' < j := by omega
                          clear hj'
                          have r1h := HJ.out.1.row j (by omega)
                          have r0h := HJ.out.1.row j' (by omega)
                          have o1h := HJ.out.1.ok j (by omega)
                          have o0h := HJ.out.1.ok j' (by omega)
                          obtain ⟨xh, hxh⟩ : ∃ x, x = dj[j]! := ⟨_, rfl⟩
                          obtain ⟨yh, hyh⟩ : ∃ y, y = dj[j']! := ⟨_, rfl⟩
                          rw [← hxh] at r1h o1h
                          rw [← hyh] at r0h o0h
                          have b1h : ((j : Nat) : Int) < d.size := by omega
                          have b0h : ((j' : Nat) : Int) < d.size := by omega
                          have b3h : j < d.size := by omega
                          have b2h : j' < d.size := by omega
                          have s1h : (Yba.prog.info? 26).map (·.size) = some (idc xh).length := by rw [idc_len, o1h]; exact info26
                          have s0h : (Yba.prog.info? 26).map (·.size) = some (idc yh).length := by rw [idc_len, o0h]; exact info26
                          have HXh := hide (And.intro hxh hyh)
                          have HRh := hide (And.intro r1h r0h)
                          clear hxh hyh r1h r0h
                          go_upto_region 22 with fail
                          go_cut [124] (fun s wc => s = .bool (!Sort.ltStr xh yh) ∧ Below Wj.heap.size Wj wc)
                          case first =>
                            go_wp2_with fail
                            refine wp_region_held_drew (S := fun w' => w'.rangeAt g (j * 32) (idc xh) ∧ w'.rangeAt g (j' * 32) (idc yh)) (by kernel_rfl) (R2 HRh.out.1 HRh.out.2 hgj ((Below.refl _ _).drew)) (fun hHeld => ?_)
                            refine wpAnyH_take (i := 0) (v := ?_) rfl (by kernel_rfl) (by kernel_rfl) (by kernel_rfl) (fun _ _ _ h => h) (Or.inl ⟨by rfl, ?hy0⟩) hHeld ?_
                            case hy0 => intro w hSw; go_simp; first | done | (with_reducible rfl)
                            simp only [Act.put, List.getElem_toArray, List.getElem_cons_zero, List.getElem_cons_succ, List.setIfInBounds_toArray, List.set_cons_zero, List.set_cons_succ]
                            refine wpAnyH_take (i := 1) (v := ?_) rfl (by kernel_rfl) (by kernel_rfl) (by kernel_rfl) (fun _ _ _ h => h) (Or.inl ⟨by rfl, ?hy1⟩) hHeld ?_
                            case hy1 => intro w hSw; go_simp; first | done | (with_reducible rfl)
                            simp only [Act.put, List.getElem_toArray, List.getElem_cons_zero, List.getElem_cons_succ, List.setIfInBounds_toArray, List.set_cons_zero, List.set_cons_succ]
                            refine wpAnyH_take (i := 2) (v := ?_) rfl (by kernel_rfl) (by kernel_rfl) (by kernel_rfl) (fun _ _ _ h => h) (Or.inl ⟨by rfl, ?hy2⟩) hHeld ?_
                            case hy2 => intro w hSw; go_simp; first | done | (with_reducible rfl)
                            simp only [Act.put, List.getElem_toArray, List.getElem_cons_zero, List.getElem_cons_succ, List.setIfInBounds_toArray, List.set_cons_zero, List.set_cons_succ]
                            refine wpAnyH_take (i := 3) (v := ?_) rfl (by kernel_rfl) (by kernel_rfl) (by kernel_rfl) (fun _ _ _ h => h) (Or.inl ⟨by rfl, ?hy3⟩) hHeld ?_
                            case hy3 => intro w hSw; go_simp; first | done | (with_reducible rfl)
                            simp only [Act.put, List.getElem_toArray, List.getElem_cons_zero, List.getElem_cons_succ, List.setIfInBounds_toArray, List.set_cons_zero, List.set_cons_succ]
                            refine wpAnyH_take (i := 4) (v := _) rfl (by kernel_rfl) (by kernel_rfl) (by kernel_rfl) (fun _ _ _ h => h) (yieldsIf_load_mid (by rfl) 26 (.tmp 115) rfl g (j * 32) rfl (idc xh) _ (fun _ h => h.1) Yba.underlying26 rfl s1h) hHeld ?_
                            simp only [Act.put, List.getElem_toArray, List.getElem_cons_zero, List.getElem_cons_succ, List.setIfInBounds_toArray, List.set_cons_zero, List.set_cons_succ]
                            refine wpAnyH_take (i := 5) (v := ?_) rfl (by kernel_rfl) (by kernel_rfl) (by kernel_rfl) (fun _ _ _ h => h) (Or.inl ⟨by rfl, ?hy5⟩) hHeld ?_
                            case hy5 => intro w hSw; go_simp; first | done | (with_reducible rfl)
                            simp only [Act.put, List.getElem_toArray, List.getElem_cons_zero, List.getElem_cons_succ, List.setIfInBounds_toArray, List.set_cons_zero, List.set_cons_succ]
                            refine wpAnyH_take (i := 6) (v := ?_) rfl (by kernel_rfl) (by kernel_rfl) (by kernel_rfl) (fun _ _ _ h => h) (Or.inl ⟨by rfl, ?hy6⟩) hHeld ?_
                            case hy6 => intro w hSw; go_simp; first | done | (with_reducible rfl)
                            simp only [Act.put, List.getElem_toArray, List.getElem_cons_zero, List.getElem_cons_succ, List.setIfInBounds_toArray, List.set_cons_zero, List.set_cons_succ]
                            refine wpAnyH_take (i := 7) (v := ?_) rfl (by kernel_rfl) (by kernel_rfl) (by kernel_rfl) (fun _ _ _ h => h) (Or.inl ⟨by rfl, ?hy7⟩) hHeld ?_
                            case hy7 => intro w hSw; go_simp; first | done | (with_reducible rfl)
                            simp only [Act.put, List.getElem_toArray, List.getElem_cons_zero, List.getElem_cons_succ, List.setIfInBounds_toArray, List.set_cons_zero, List.set_cons_succ]
                            refine wpAnyH_take (i := 8) (v := ?_) rfl (by kernel_rfl) (by kernel_rfl) (by kernel_rfl) (fun _ _ _ h => h) (Or.inl ⟨by rfl, ?hy8⟩) hHeld ?_
                            case hy8 => intro w hSw; go_simp; first | done | (with_reducible rfl)
                            simp only [Act.put, List.getElem_toArray, List.getElem_cons_zero, List.getElem_cons_succ, List.setIfInBounds_toArray, List.set_cons_zero, List.set_cons_succ]
                            refine wpAnyH_take (i := 9) (v := _) rfl (by kernel_rfl) (by kernel_rfl) (by kernel_rfl) (fun _ _ _ h => h) (yieldsIf_load_mid (by rfl) 26 (.tmp 120) rfl g (j' * 32) rfl (idc yh) _ (fun _ h => h.2) Yba.underlying26 rfl s0h) hHeld ?_
                            simp only [Act.put, List.getElem_toArray, List.getElem_cons_zero, List.getElem_cons_succ, List.setIfInBounds_toArray, List.set_cons_zero, List.set_cons_succ]
                            refine wpAnyH_ready (rs := [10]) (by kernel_rfl) (by simp) ?_
                            refine AllReadyH.cons rfl (fun K hK => ?_) AllReadyH.nil
                            rw [if_pos (by rfl)]
                            go_simp
                            refine (order_any xh yh _ o1h o0h).mono ?_
                            rintro e w5 ⟨⟨cc, rfl, hcc⟩, hw5⟩; have HB5 := hide (un_drew hw5); have HC5 := hide hcc; clear hw5 hcc
                            clear hHeld
                            refine hK.out _ _ (R2 HRh.out.1 HRh.out.2 hgj HB5.out) (fun hHeld => ?_)
                            clear hK K
                            refine wpAnyH_take (i := 11) (v := ?_) rfl (by kernel_rfl) (by kernel_rfl) (by kernel_rfl) (fun _ _ _ h => h) (Or.inl ⟨by rfl, ?hy11⟩) hHeld ?_
                            case hy11 => intro w hSw; go_simp; first | done | (with_reducible rfl)
                            simp only [Act.put, List.getElem_toArray, List.getElem_cons_zero, List.getElem_cons_succ, List.setIfInBounds_toArray, List.set_cons_zero, List.set_cons_succ]
                            refine wpAnyH_take (i := 12) (v := ?_) rfl (by kernel_rfl) (by kernel_rfl) (by kernel_rfl) (fun _ _ _ h => h) (Or.inl ⟨by rfl, ?hy12⟩) hHeld ?_
                            case hy12 => intro w hSw; go_simp; first | done | (with_reducible rfl)
                            simp only [Act.put, List.getElem_toArray, List.getElem_cons_zero, List.getElem_cons_succ, List.setIfInBounds_toArray, List.set_cons_zero, List.set_cons_succ]
                            refine wpAnyH_done (by kernel_rfl) ?_ _
                            go_wp2
                            go_meet
                            have HL : Sort.ltStr xh yh = decide (cc < 0) := (decide_eq_decide.2 HC5.out).symm
                            exact ⟨by first | (rw [HL]; done) | (simp [HL]; done), HB5.out⟩
                          case rest =>
                            obtain ⟨hs, hbc⟩ := hcut
                            subst hs
                            have HSh := hide (HJ.out.1.below hgj hbc)
                            have hgh : g < wc.heap.size := by have := hbc.size; have := hgj; omega
                            clear hbc
                            clear HRh
                            generalize hbb : Sort.ltStr xh yh = bb
                            have HBB := hide hbb
                            clear hbb
                            cases bb with
                            | true =>
                              have HO2 : Hid (Sort.shiftUp Sort.ltStr b (j + 1) (Sort.swp dj j j') = d3) := ⟨by
                                have h := HST.out
                                rw [← HXh.out.1, ← HXh.out.2, HBB.out, if_pos rfl, HJ.out.2] at h
                                exact h.symm⟩
                              obtain ⟨W3, rfl⟩ : ∃ W3, W3 = wc := ⟨_, rfl⟩
                              have hSdp := HSh.out.below hgh ((Below.refl _ _).drew)
                              have HSWp := hSdp.swap (i := j) (j := j') (by omega) (by omega)
                              have r1p := hSdp.row j' (by omega)
                              have r0p := hSdp.row j (by omega)
                              have o1p := hSdp.ok j' (by omega)
                              have o0p := hSdp.ok j (by omega)
                              have t0p := hSdp.there (x := j) (by omega)
                              have t1p := (hSdp.store (i := j) (by omega) dj[j']! o1p).there (x := j') (by rw [Array.size_setIfInBounds]; omega)
                              obtain ⟨xp, hxp⟩ : ∃ x, x = dj[j']! := ⟨_, rfl⟩
                              obtain ⟨yp, hyp⟩ : ∃ y, y = dj[j]! := ⟨_, rfl⟩
                              rw [← hxp] at r1p o1p t1p
                              rw [← hyp] at r0p o0p
                              rw [← hxp, ← hyp] at HSWp
                              have HSWp := hide HSWp
                              have b1p : ((j' : Nat) : Int) < d.size := by omega
                              have b0p : ((j : Nat) : Int) < d.size := by omega
                              have b3p : j' < d.size := by omega
                              have b2p : j < d.size := by omega
                              have s1p : (Yba.prog.info? 26).map (·.size) = some (idc xp).length := by rw [idc_len, o1p]; exact info26
                              have s0p : (Yba.prog.info? 26).map (·.size) = some (idc yp).length := by rw [idc_len, o0p]; exact info26
                              have l1p : (idc xp).length = 32 := by rw [idc_len, o1p]
                              have l0p : (idc yp).length = 32 := by rw [idc_len, o0p]
                              have HRTp := hide (And.intro r1p (And.intro r0p (And.intro t0p t1p)))
                              clear hxp hyp r1p r0p t0p t1p hSdp
                              go_upto_region 23 with fail

                              

                              refine wp_region_any (by kernel_rfl) ?_
                              change wpAny _ _ _ _ _ _ _ (World.drew _)
                              refine wpAny_take (i := 0) (v := ?_) rfl (by kernel_rfl) (by kernel_rfl) (by kernel_rfl) (fun _ _ _ h => h) (Or.inl ⟨by rfl, ?hy0⟩) ?_
                              case hy0 => intro w; go_simp; first | done | (with_reducible rfl)
                              simp only [Act.put, List.getElem_toArray, List.getElem_cons_zero, List.getElem_cons_succ, List.setIfInBounds_toArray, List.set_cons_zero, List.set_cons_succ]
                              refine wpAny_take (i := 1) (v := ?_) rfl (by kernel_rfl) (by kernel_rfl) (by kernel_rfl) (fun _ _ _ h => h) (Or.inl ⟨by rfl, ?hy1⟩) ?_
                              case hy1 => intro w; go_simp; first | done | (with_reducible rfl)
                              simp only [Act.put, List.getElem_toArray, List.getElem_cons_zero, List.getElem_cons_succ, List.setIfInBounds_toArray, List.set_cons_zero, List.set_cons_succ]
                              refine wpAny_take (i := 2) (v := ?_) rfl (by kernel_rfl) (by kernel_rfl) (by kernel_rfl) (fun _ _ _ h => h) (Or.inl ⟨by rfl, ?hy2⟩) ?_
                              case hy2 => intro w; go_simp; first | done | (with_reducible rfl)
                              simp only [Act.put, List.getElem_toArray, List.getElem_cons_zero, List.getElem_cons_succ, List.setIfInBounds_toArray, List.set_cons_zero, List.set_cons_succ]
                              refine wpAny_take (i := 3) (v := ?_) rfl (by kernel_rfl) (by kernel_rfl) (by kernel_rfl) (fun _ _ _ h => h) (Or.inl ⟨by rfl, ?hy3⟩) ?_
                              case hy3 => intro w; go_simp; first | done | (with_reducible rfl)
                              simp only [Act.put, List.getElem_toArray, List.getElem_cons_zero, List.getElem_cons_succ, List.setIfInBounds_toArray, List.set_cons_zero, List.set_cons_succ]
                              refine wpAny_take (i := 4) (v := ?_) rfl (by kernel_rfl) (by kernel_rfl) (by kernel_rfl) (fun _ _ _ h => h) (Or.inl ⟨by rfl, ?hy4⟩) ?_
                              case hy4 => intro w; go_simp; first | done | (with_reducible rfl)
                              simp only [Act.put, List.getElem_toArray, List.getElem_cons_zero, List.getElem_cons_succ, List.setIfInBounds_toArray, List.set_cons_zero, List.set_cons_succ]
                              refine wpAny_take (i := 5) (v := ?_) rfl (by kernel_rfl) (by kernel_rfl) (by kernel_rfl) (fun _ _ _ h => h) (Or.inl ⟨by rfl, ?hy5⟩) ?_
                              case hy5 => intro w; go_simp; first | done | (with_reducible rfl)
                              simp only [Act.put, List.getElem_toArray, List.getElem_cons_zero, List.getElem_cons_succ, List.setIfInBounds_toArray, List.set_cons_zero, List.set_cons_succ]
                              refine wpAny_take (i := 6) (v := ?_) rfl (by kernel_rfl) (by kernel_rfl) (by kernel_rfl) (fun _ _ _ h => h) (Or.inl ⟨by rfl, ?hy6⟩) ?_
                              case hy6 => intro w; go_simp; first | done | (with_reducible rfl)
                              simp only [Act.put, List.getElem_toArray, List.getElem_cons_zero, List.getElem_cons_succ, List.setIfInBounds_toArray, List.set_cons_zero, List.set_cons_succ]
                              refine wpAny_take (i := 7) (v := ?_) rfl (by kernel_rfl) (by kernel_rfl) (by kernel_rfl) (fun _ _ _ h => h) (Or.inl ⟨by rfl, ?hy7⟩) ?_
                              case hy7 => intro w; go_simp; first | done | (with_reducible rfl)
                              simp only [Act.put, List.getElem_toArray, List.getElem_cons_zero, List.getElem_cons_succ, List.setIfInBounds_toArray, List.set_cons_zero, List.set_cons_succ]
                              refine wpAny_take (i := 8) (v := ?_) rfl (by kernel_rfl) (by kernel_rfl) (by kernel_rfl) (fun _ _ _ h => h) (Or.inl ⟨by rfl, ?hy8⟩) ?_
                              case hy8 => intro w; go_simp; first | done | (with_reducible rfl)
                              simp only [Act.put, List.getElem_toArray, List.getElem_cons_zero, List.getElem_cons_succ, List.setIfInBounds_toArray, List.set_cons_zero, List.set_cons_succ]
                              refine wpAny_take (i := 10) (v := ?_) rfl (by kernel_rfl) (by kernel_rfl) (by kernel_rfl) (fun _ _ _ h => h) (Or.inl ⟨by rfl, ?hy10⟩) ?_
                              case hy10 => intro w; go_simp; first | done | (with_reducible rfl)
                              simp only [Act.put, List.getElem_toArray, List.getElem_cons_zero, List.getElem_cons_succ, List.setIfInBounds_toArray, List.set_cons_zero, List.set_cons_succ]
                              refine wpAny_take (i := 11) (v := ?_) rfl (by kernel_rfl) (by kernel_rfl) (by kernel_rfl) (fun _ _ _ h => h) (Or.inl ⟨by rfl, ?hy11⟩) ?_
                              case hy11 => intro w; go_simp; first | done | (with_reducible rfl)
                              simp only [Act.put, List.getElem_toArray, List.getElem_cons_zero, List.getElem_cons_succ, List.setIfInBounds_toArray, List.set_cons_zero, List.set_cons_succ]
                              refine wpAny_take (i := 12) (v := ?_) rfl (by kernel_rfl) (by kernel_rfl) (by kernel_rfl) (fun _ _ _ h => h) (Or.inl ⟨by rfl, ?hy12⟩) ?_
                              case hy12 => intro w; go_simp; first | done | (with_reducible rfl)
                              simp only [Act.put, List.getElem_toArray, List.getElem_cons_zero, List.getElem_cons_succ, List.setIfInBounds_toArray, List.set_cons_zero, List.set_cons_succ]
                              refine wpAny_ready (rs := [9, 13]) (by kernel_rfl) (by simp) ?_
                              refine AllReady.cons rfl (fun K hK => ?_) (AllReady.cons rfl (fun K hK => ?_) AllReady.nil)
                              · rw [if_pos (by rfl)]
                                refine wp_load_mid 26 (.tmp 133) rfl g (j' * 32) rfl (idc xp) _ (HRTp.out.1) Yba.underlying26 rfl s1p ?_
                                refine hK _ _ ?_
                                clear hK K
                                simp only [Act.put, List.getElem_toArray, List.getElem_cons_zero, List.getElem_cons_succ, List.setIfInBounds_toArray, List.set_cons_zero, List.set_cons_succ]
                                refine wpAny_ready (rs := [13]) (by kernel_rfl) (by simp) ?_
                                refine AllReady.cons rfl (fun K hK => ?_) AllReady.nil
                                rw [if_pos (by rfl)]
                                refine wp_load_mid 26 (.tmp 137) rfl g (j * 32) rfl (idc yp) _ (HRTp.out.2.1) Yba.underlying26 rfl s0p ?_
                                refine hK _ _ ?_
                                clear hK K
                                simp only [Act.put, List.getElem_toArray, List.getElem_cons_zero, List.getElem_cons_succ, List.setIfInBounds_toArray, List.set_cons_zero, List.set_cons_succ]
                                refine wpAny_take (i := 14) (v := ?_) rfl (by kernel_rfl) (by kernel_rfl) (by kernel_rfl) (fun _ _ _ h => h) (Or.inl ⟨by rfl, ?hy14⟩) ?_
                                case hy14 => intro w; go_simp; first | done | (with_reducible rfl)
                                simp only [Act.put, List.getElem_toArray, List.getElem_cons_zero, List.getElem_cons_succ, List.setIfInBounds_toArray, List.set_cons_zero, List.set_cons_succ]
                                refine wpAny_ready (rs := [15]) (by kernel_rfl) (by simp) ?_
                                refine AllReady.cons rfl (fun K hK => ?_) AllReady.nil
                                rw [if_pos (by rfl)]
                                refine wp_store_mid 26 (.tmp 139) (.tmp 134) rfl g (j * 32) (idc xp).toArray rfl rfl (by rw [List.size_toArray, l1p]; exact HRTp.out.2.2.1) (by rw [List.size_toArray]; exact s1p) (by simpa using idc_one xp) ?_
                                refine hK _ _ ?_
                                clear hK K
                                simp only [Act.put, List.getElem_toArray, List.getElem_cons_zero, List.getElem_cons_succ, List.setIfInBounds_toArray, List.set_cons_zero, List.set_cons_succ]
                                refine wpAny_take (i := 16) (v := ?_) rfl (by kernel_rfl) (by kernel_rfl) (by kernel_rfl) (fun _ _ _ h => h) (Or.inl ⟨by rfl, ?hy16⟩) ?_
                                case hy16 => intro w; go_simp; first | done | (with_reducible rfl)
                                simp only [Act.put, List.getElem_toArray, List.getElem_cons_zero, List.getElem_cons_succ, List.setIfInBounds_toArray, List.set_cons_zero, List.set_cons_succ]
                                refine wpAny_ready (rs := [17]) (by kernel_rfl) (by simp) ?_
                                refine AllReady.cons rfl (fun K hK => ?_) AllReady.nil
                                rw [if_pos (by rfl)]
                                refine wp_store_mid 26 (.tmp 140) (.tmp 138) rfl g (j' * 32) (idc yp).toArray rfl rfl (by rw [List.size_toArray, l0p]; exact HRTp.out.2.2.2) (by rw [List.size_toArray]; exact s0p) (by simpa using idc_one yp) ?_
                                refine hK _ _ ?_
                                clear hK K
                                simp only [Act.put, List.getElem_toArray, List.getElem_cons_zero, List.getElem_cons_succ, List.setIfInBounds_toArray, List.set_cons_zero, List.set_cons_succ]
                                refine wpAny_done (by kernel_rfl) ?_ _
                                obtain ⟨wc, hcut⟩ : ∃ wc, SR w g (Sort.swp dj j j') wc ∧ W3.heap.size ≤ wc.heap.size ∧ wc = ((W3.drew.setCells g (j * 32) (idc xp)).setCells g (j' * 32) (idc yp)) := ⟨_, HSWp.out, by rw [sc_size, sc_size]; exact Nat.le_refl _, rfl⟩
                                rw [← hcut.2.2]
                                have HSp := hide hcut.1
                                have hgp : g < wc.heap.size := by have := hcut.2.1; have := hgh; omega
                                skip
                                clear hcut HSWp HRTp
                                go_wp2
                                go_roundw
                                case rel => exact ⟨j + 1, Sort.swp dj j j', by omega, by omega, by go_num, by rw [size_swp']; exact hdj, HSp.out, HO2.out⟩
                                case measure => simp [intOf] <;> omega
                              · rw [if_pos (by rfl)]
                                refine wp_load_mid 26 (.tmp 137) rfl g (j * 32) rfl (idc yp) _ (HRTp.out.2.1) Yba.underlying26 rfl s0p ?_
                                refine hK _ _ ?_
                                clear hK K
                                simp only [Act.put, List.getElem_toArray, List.getElem_cons_zero, List.getElem_cons_succ, List.setIfInBounds_toArray, List.set_cons_zero, List.set_cons_succ]
                                refine wpAny_ready (rs := [9]) (by kernel_rfl) (by simp) ?_
                                refine AllReady.cons rfl (fun K hK => ?_) AllReady.nil
                                rw [if_pos (by rfl)]
                                refine wp_load_mid 26 (.tmp 133) rfl g (j' * 32) rfl (idc xp) _ (HRTp.out.1) Yba.underlying26 rfl s1p ?_
                                refine hK _ _ ?_
                                clear hK K
                                simp only [Act.put, List.getElem_toArray, List.getElem_cons_zero, List.getElem_cons_succ, List.setIfInBounds_toArray, List.set_cons_zero, List.set_cons_succ]
                                refine wpAny_take (i := 14) (v := ?_) rfl (by kernel_rfl) (by kernel_rfl) (by kernel_rfl) (fun _ _ _ h => h) (Or.inl ⟨by rfl, ?hy14⟩) ?_
                                case hy14 => intro w; go_simp; first | done | (with_reducible rfl)
                                simp only [Act.put, List.getElem_toArray, List.getElem_cons_zero, List.getElem_cons_succ, List.setIfInBounds_toArray, List.set_cons_zero, List.set_cons_succ]
                                refine wpAny_ready (rs := [15]) (by kernel_rfl) (by simp) ?_
                                refine AllReady.cons rfl (fun K hK => ?_) AllReady.nil
                                rw [if_pos (by rfl)]
                                refine wp_store_mid 26 (.tmp 139) (.tmp 134) rfl g (j * 32) (idc xp).toArray rfl rfl (by rw [List.size_toArray, l1p]; exact HRTp.out.2.2.1) (by rw [List.size_toArray]; exact s1p) (by simpa using idc_one xp) ?_
                                refine hK _ _ ?_
                                clear hK K
                                simp only [Act.put, List.getElem_toArray, List.getElem_cons_zero, List.getElem_cons_succ, List.setIfInBounds_toArray, List.set_cons_zero, List.set_cons_succ]
                                refine wpAny_take (i := 16) (v := ?_) rfl (by kernel_rfl) (by kernel_rfl) (by kernel_rfl) (fun _ _ _ h => h) (Or.inl ⟨by rfl, ?hy16⟩) ?_
                                case hy16 => intro w; go_simp; first | done | (with_reducible rfl)
                                simp only [Act.put, List.getElem_toArray, List.getElem_cons_zero, List.getElem_cons_succ, List.setIfInBounds_toArray, List.set_cons_zero, List.set_cons_succ]
                                refine wpAny_ready (rs := [17]) (by kernel_rfl) (by simp) ?_
                                refine AllReady.cons rfl (fun K hK => ?_) AllReady.nil
                                rw [if_pos (by rfl)]
                                refine wp_store_mid 26 (.tmp 140) (.tmp 138) rfl g (j' * 32) (idc yp).toArray rfl rfl (by rw [List.size_toArray, l0p]; exact HRTp.out.2.2.2) (by rw [List.size_toArray]; exact s0p) (by simpa using idc_one yp) ?_
                                refine hK _ _ ?_
                                clear hK K
                                simp only [Act.put, List.getElem_toArray, List.getElem_cons_zero, List.getElem_cons_succ, List.setIfInBounds_toArray, List.set_cons_zero, List.set_cons_succ]
                                refine wpAny_done (by kernel_rfl) ?_ _
                                obtain ⟨wc, hcut⟩ : ∃ wc, SR w g (Sort.swp dj j j') wc ∧ W3.heap.size ≤ wc.heap.size ∧ wc = ((W3.drew.setCells g (j * 32) (idc xp)).setCells g (j' * 32) (idc yp)) := ⟨_, HSWp.out, by rw [sc_size, sc_size]; exact Nat.le_refl _, rfl⟩
                                rw [← hcut.2.2]
                                have HSp := hide hcut.1
                                have hgp : g < wc.heap.size := by have := hcut.2.1; have := hgh; omega
                                skip
                                clear hcut HSWp HRTp
                                go_wp2
                                go_roundw
                                case rel => exact ⟨j + 1, Sort.swp dj j j', by omega, by omega, by go_num, by rw [size_swp']; exact hdj, HSp.out, HO2.out⟩
                                case measure => simp [intOf] <;> omega
                            | false =>
                              have HF : Hid (d3 = dj) := ⟨by
                                have h := HST.out
                                rw [← HXh.out.1, ← HXh.out.2, HBB.out, if_neg Bool.false_ne_true, HJ.out.2] at h
                                exact h⟩
                              go_wp2
                              go_roundw
                              case rel => exact ⟨s + 1, m, d3, by omega, by omega, by omega, rfl, by go_num, by rw [HF.out]; exact hdj, by rw [HF.out]; exact HSh.out, HG2.out⟩
                              case measure => simp [intOf] <;> omega
                        · have z9 : ¬ (j : Int) < b := by omega
                          have HF : Hid (d3 = dj) := ⟨by rw [← HJ.out.2]; exact sup_end b j dj hjb⟩
                          go_wp2
                          go_roundw
                          case rel => exact ⟨s + 1, m, d3, by omega, by omega, by omega, rfl, by go_num, by rw [HF.out]; exact hdj, by rw [HF.out]; exact HJ.out.1, HG2.out⟩
                          case measure => simp [intOf] <;> omega
                    · have z8 : ¬ (2 : Int) ≤ q' := by omega
                      have HG2 : Hid (Sort.partialIns Sort.ltStr a b (5 - (s + 1)) m d2 = Sort.partialInsertionSort Sort.ltStr d a b) := ⟨by
                        rw [← HS.out.2, HGO.out d2 (if_neg (by have := HQ.out.2; omega)).symm]⟩
                      go_wp2
                      go_roundw
                      case rel => exact ⟨s + 1, m, d2, by omega, by omega, by omega, rfl, by go_num, hdk2, HSf.out, HG2.out⟩
                      case measure => simp [intOf] <;> omega
    · have z1 : ¬ (s : Int) < 5 := by omega
      have HF : Hid (Sort.partialInsertionSort Sort.ltStr d a b = (dk, false)) := ⟨by
        have e : s = 5 := by omega
        rw [← HS.out.2, e]
        rfl⟩
      go_wp2
      go_ret
      rw [HF.out]
      exact ⟨rfl, HS.out.1⟩
end Go.Proofs.Ybulkcgfi
