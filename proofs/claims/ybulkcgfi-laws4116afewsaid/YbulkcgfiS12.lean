import Derived.Test.YbulkcgfiS11
namespace Go.Proofs.Ybulkcgfi
open Go.RowKit
set_option linter.unusedVariables false
set_option linter.unusedSimpArgs false
set_option maxRecDepth 100000
theorem su_step (p : ID → Bool) (d : Array ID) (j i : Nat) : Sort.scanUp p d j i = if (decide (i ≤ j) && p d[i]!) = true then Sort.scanUp p d j (i + 1) else i := by
  rw [Sort.scanUp]
theorem sw_step (p : ID → Bool) (d : Array ID) (i j : Nat) (h : 0 < i) : Sort.scanDown p d i j = if (decide (i ≤ j) && p d[j]!) = true then Sort.scanDown p d i (j - 1) else j := by
  cases j with
  | zero => rw [if_neg (by simp; omega)]; rfl
  | succ j => rw [Sort.scanDown]; rfl
theorem pe_step (a i j : Nat) (d : Array ID) {i2 j2 : Nat} (hi : i2 = Sort.scanUp (fun x => !Sort.ltStr d[a]! x) d j i) (hj : j2 = Sort.scanDown (fun x => Sort.ltStr d[a]! x) d i2 j) (h1 : i ≤ i2) (h2 : j2 ≤ j) :
    Sort.partEqLoop Sort.ltStr a i j d = if i2 > j2 then (i2, d) else Sort.partEqLoop Sort.ltStr a (i2 + 1) (j2 - 1) (Sort.swp d i2 j2) := by
  rw [Sort.partEqLoop]
  rw [← hi, ← hj]
  by_cases h : i2 > j2
  · rw [if_pos h, if_pos h]
  · rw [if_neg h, if_neg h, dif_pos (by omega)]
set_option maxHeartbeats 16000000 in
theorem parteq_any (g cap a b pv : Nat) (d : Array ID) (w : World) (h0 : SR w g d w) (hg : g < w.heap.size) (hap : a ≤ pv) (hpb : pv < b) (hb : b ≤ d.size) (hn : d.size ≤ 1024) :
    Calls Yba.prog 21 #[.slice (some ⟨g, 0, none⟩) d.size cap, .int .i64 a, .int .i64 b, .int .i64 pv, .func (.func 8) #[] #[]] w fun e w' => e = .returned (.int .i64 (Sort.partitionEqual Sort.ltStr d a b pv).1) ∧ SR w g (Sort.partitionEqual Sort.ltStr d a b pv).2 w' := by
  have H0 := hide h0
  clear h0
  obtain ⟨a', ha'⟩ : ∃ a', a' = a + 1 := ⟨_, rfl⟩
  obtain ⟨b', hb'⟩ : ∃ b', b' = b - 1 := ⟨_, rfl⟩
  have m1 : IntKind.i64.wrap ((a : Int) + 1) = a' := by rw [wrap_in _ (by omega) (by omega)]; omega
  have m2 : IntKind.i64.wrap ((b : Int) - 1) = b' := by rw [wrap_in _ (by omega) (by omega)]; omega
  have HE : Hid (Sort.partitionEqual Sort.ltStr d a b pv = Sort.partEqLoop Sort.ltStr a a' b' (Sort.swp d a pv)) := ⟨by rw [ha', hb']; rfl⟩
  have ha1 : a < a' := by omega
  have ha2 : a' ≤ b := by omega
  have hb1 : b' < b := by omega
  clear ha' hb'
  go_enter Yba.func21, Yba.ntmps21
  have hSda := H0.out.below hg ((Below.refl _ _).drew)
  have HSWa := hSda.swap (i := a) (j := pv) (by omega) (by omega)
  have r1a := hSda.row pv (by omega)
  have r0a := hSda.row a (by omega)
  have o1a := hSda.ok pv (by omega)
  have o0a := hSda.ok a (by omega)
  have t0a := hSda.there (x := a) (by omega)
  have t1a := (hSda.store (i := a) (by omega) d[pv]! o1a).there (x := pv) (by rw [Array.size_setIfInBounds]; omega)
  obtain ⟨xa, hxa⟩ : ∃ x, x = d[pv]! := ⟨_, rfl⟩
  obtain ⟨ya, hya⟩ : ∃ y, y = d[a]! := ⟨_, rfl⟩
  rw [← hxa] at r1a o1a t1a
  rw [← hya] at r0a o0a
  rw [← hxa, ← hya] at HSWa
  have HSWa := hide HSWa
  have b1a : ((pv : Nat) : Int) < d.size := by omega
  have b0a : ((a : Nat) : Int) < d.size := by omega
  have b3a : pv < d.size := by omega
  have b2a : a < d.size := by omega
  have s1a : (Yba.prog.info? 26).map (·.size) = some (idc xa).length := by rw [idc_len, o1a]; exact info26
  have s0a : (Yba.prog.info? 26).map (·.size) = some (idc ya).length := by rw [idc_len, o0a]; exact info26
  have l1a : (idc xa).length = 32 := by rw [idc_len, o1a]
  have l0a : (idc ya).length = 32 := by rw [idc_len, o0a]
  have HRTa := hide (And.intro r1a (And.intro r0a (And.intro t0a t1a)))
  clear hxa hya r1a r0a t0a t1a hSda
  go_upto_region 1 with fail
  go_cut [] (fun wc => SR w g (Sort.swp d a pv) wc ∧ w.heap.size ≤ wc.heap.size)
  case first =>
    go_wp2_with fail
    refine wp_region_any (by kernel_rfl) ?_
    change wpAny _ _ _ _ _ _ _ (World.drew _)
    refine wpAny_take (i := 0) (v := ?_) rfl (by kernel_rfl) (by kernel_rfl) (by kernel_rfl) (fun _ _ _ h => h) (Or.inl ⟨by rfl, ?hy0⟩) ?_
    case hy0 => intro w; go_simp; first | done | (with_reducible rfl)
    simp only [Act.put, List.getElem_toArray, List.getElem_cons_zero, List.getElem_cons_succ, List.setIfInBounds_toArray, List.set_cons_zero, List.set_cons_succ]
    refine wpAny_take (i := 1) (v := ?_) rfl (by kernel_rfl) (by kernel_rfl) (by kernel_rfl) (fun _ _ _ h => h) (Or.inl ⟨by rfl, ?hy1⟩) ?_
    case hy1 => intro w; go_simp; first | done | (with_reducible rfl)
    simp only [Act.put, List.getElem_toArray, List.getElem_cons_zero, List.getElem_cons_succ, List.setIfInBounds_toArray, List.set_cons_zero, List.set_cons_succ]
    refine wpAny_take (i := 2) (v := ?_) rfl (by kernel_rfl) (by kernel_rfl) (by kernel_rfl) (fun _ _ _ h => h) (Or.inl ⟨by rfl, ?hy2⟩) ?_
    case hy2 => intro w; go_simp; first | done | (with_reducible rfl)
    simp only [Act.put, List.getElem_toArray, List.getElem_cons_zero, List.getElem_cons_succ, List.setIfInBounds_toArray, List.set_cons_zero, List.set_cons_succ]
    refine wpAny_take (i := 3) (v := ?_) rfl (by kernel_rfl) (by kernel_rfl) (by kernel_rfl) (fun _ _ _ h => h) (Or.inl ⟨by rfl, ?hy3⟩) ?_
    case hy3 => intro w; go_simp; first | done | (with_reducible rfl)
    simp only [Act.put, List.getElem_toArray, List.getElem_cons_zero, List.getElem_cons_succ, List.setIfInBounds_toArray, List.set_cons_zero, List.set_cons_succ]
    refine wpAny_take (i := 4) (v := ?_) rfl (by kernel_rfl) (by kernel_rfl) (by kernel_rfl) (fun _ _ _ h => h) (Or.inl ⟨by rfl, ?hy4⟩) ?_
    case hy4 => intro w; go_simp; first | done | (with_reducible rfl)
    simp only [Act.put, List.getElem_toArray, List.getElem_cons_zero, List.getElem_cons_succ, List.setIfInBounds_toArray, List.set_cons_zero, List.set_cons_succ]
    refine wpAny_take (i := 5) (v := ?_) rfl (by kernel_rfl) (by kernel_rfl) (by kernel_rfl) (fun _ _ _ h => h) (Or.inl ⟨by rfl, ?hy5⟩) ?_
    case hy5 => intro w; go_simp; first | done | (with_reducible rfl)
    simp only [Act.put, List.getElem_toArray, List.getElem_cons_zero, List.getElem_cons_succ, List.setIfInBounds_toArray, List.set_cons_zero, List.set_cons_succ]
    refine wpAny_take (i := 6) (v := ?_) rfl (by kernel_rfl) (by kernel_rfl) (by kernel_rfl) (fun _ _ _ h => h) (Or.inl ⟨by rfl, ?hy6⟩) ?_
    case hy6 => intro w; go_simp; first | done | (with_reducible rfl)
    simp only [Act.put, List.getElem_toArray, List.getElem_cons_zero, List.getElem_cons_succ, List.setIfInBounds_toArray, List.set_cons_zero, List.set_cons_succ]
    refine wpAny_take (i := 8) (v := ?_) rfl (by kernel_rfl) (by kernel_rfl) (by kernel_rfl) (fun _ _ _ h => h) (Or.inl ⟨by rfl, ?hy8⟩) ?_
    case hy8 => intro w; go_simp; first | done | (with_reducible rfl)
    simp only [Act.put, List.getElem_toArray, List.getElem_cons_zero, List.getElem_cons_succ, List.setIfInBounds_toArray, List.set_cons_zero, List.set_cons_succ]
    refine wpAny_take (i := 9) (v := ?_) rfl (by kernel_rfl) (by kernel_rfl) (by kernel_rfl) (fun _ _ _ h => h) (Or.inl ⟨by rfl, ?hy9⟩) ?_
    case hy9 => intro w; go_simp; first | done | (with_reducible rfl)
    simp only [Act.put, List.getElem_toArray, List.getElem_cons_zero, List.getElem_cons_succ, List.setIfInBounds_toArray, List.set_cons_zero, List.set_cons_succ]
    refine wpAny_take (i := 10) (v := ?_) rfl (by kernel_rfl) (by kernel_rfl) (by kernel_rfl) (fun _ _ _ h => h) (Or.inl ⟨by rfl, ?hy10⟩) ?_
    case hy10 => intro w; go_simp; first | done | (with_reducible rfl)
    simp only [Act.put, List.getElem_toArray, List.getElem_cons_zero, List.getElem_cons_succ, List.setIfInBounds_toArray, List.set_cons_zero, List.set_cons_succ]
    refine wpAny_ready (rs := [7, 11]) (by kernel_rfl) (by simp) ?_
    refine AllReady.cons rfl (fun K hK => ?_) (AllReady.cons rfl (fun K hK => ?_) AllReady.nil)
    · rw [if_pos (by rfl)]
      refine wp_load_mid 26 (.tmp 19) rfl g (pv * 32) rfl (idc xa) _ (HRTa.out.1) Yba.underlying26 rfl s1a ?_
      refine hK _ _ ?_
      clear hK K
      simp only [Act.put, List.getElem_toArray, List.getElem_cons_zero, List.getElem_cons_succ, List.setIfInBounds_toArray, List.set_cons_zero, List.set_cons_succ]
      refine wpAny_ready (rs := [11]) (by kernel_rfl) (by simp) ?_
      refine AllReady.cons rfl (fun K hK => ?_) AllReady.nil
      rw [if_pos (by rfl)]
      refine wp_load_mid 26 (.tmp 23) rfl g (a * 32) rfl (idc ya) _ (HRTa.out.2.1) Yba.underlying26 rfl s0a ?_
      refine hK _ _ ?_
      clear hK K
      simp only [Act.put, List.getElem_toArray, List.getElem_cons_zero, List.getElem_cons_succ, List.setIfInBounds_toArray, List.set_cons_zero, List.set_cons_succ]
      refine wpAny_take (i := 12) (v := ?_) rfl (by kernel_rfl) (by kernel_rfl) (by kernel_rfl) (fun _ _ _ h => h) (Or.inl ⟨by rfl, ?hy12⟩) ?_
      case hy12 => intro w; go_simp; first | done | (with_reducible rfl)
      simp only [Act.put, List.getElem_toArray, List.getElem_cons_zero, List.getElem_cons_succ, List.setIfInBounds_toArray, List.set_cons_zero, List.set_cons_succ]
      refine wpAny_ready (rs := [13]) (by kernel_rfl) (by simp) ?_
      refine AllReady.cons rfl (fun K hK => ?_) AllReady.nil
      rw [if_pos (by rfl)]
      refine wp_store_mid 26 (.tmp 25) (.tmp 20) rfl g (a * 32) (idc xa).toArray rfl rfl (by rw [List.size_toArray, l1a]; exact HRTa.out.2.2.1) (by rw [List.size_toArray]; exact s1a) (by simpa using idc_one xa) ?_
      refine hK _ _ ?_
      clear hK K
      simp only [Act.put, List.getElem_toArray, List.getElem_cons_zero, List.getElem_cons_succ, List.setIfInBounds_toArray, List.set_cons_zero, List.set_cons_succ]
      refine wpAny_take (i := 14) (v := ?_) rfl (by kernel_rfl) (by kernel_rfl) (by kernel_rfl) (fun _ _ _ h => h) (Or.inl ⟨by rfl, ?hy14⟩) ?_
      case hy14 => intro w; go_simp; first | done | (with_reducible rfl)
      simp only [Act.put, List.getElem_toArray, List.getElem_cons_zero, List.getElem_cons_succ, List.setIfInBounds_toArray, List.set_cons_zero, List.set_cons_succ]
      refine wpAny_ready (rs := [15]) (by kernel_rfl) (by simp) ?_
      refine AllReady.cons rfl (fun K hK => ?_) AllReady.nil
      rw [if_pos (by rfl)]
      refine wp_store_mid 26 (.tmp 26) (.tmp 24) rfl g (pv * 32) (idc ya).toArray rfl rfl (by rw [List.size_toArray, l0a]; exact HRTa.out.2.2.2) (by rw [List.size_toArray]; exact s0a) (by simpa using idc_one ya) ?_
      refine hK _ _ ?_
      clear hK K
      simp only [Act.put, List.getElem_toArray, List.getElem_cons_zero, List.getElem_cons_succ, List.setIfInBounds_toArray, List.set_cons_zero, List.set_cons_succ]
      refine wpAny_done (by kernel_rfl) ?_ _
      go_wp2
      go_meet
      exact ⟨HSWa.out, by rw [sc_size, sc_size]; exact Nat.le_refl _⟩
    · rw [if_pos (by rfl)]
      refine wp_load_mid 26 (.tmp 23) rfl g (a * 32) rfl (idc ya) _ (HRTa.out.2.1) Yba.underlying26 rfl s0a ?_
      refine hK _ _ ?_
      clear hK K
      simp only [Act.put, List.getElem_toArray, List.getElem_cons_zero, List.getElem_cons_succ, List.setIfInBounds_toArray, List.set_cons_zero, List.set_cons_succ]
      refine wpAny_ready (rs := [7]) (by kernel_rfl) (by simp) ?_
      refine AllReady.cons rfl (fun K hK => ?_) AllReady.nil
      rw [if_pos (by rfl)]
      refine wp_load_mid 26 (.tmp 19) rfl g (pv * 32) rfl (idc xa) _ (HRTa.out.1) Yba.underlying26 rfl s1a ?_
      refine hK _ _ ?_
      clear hK K
      simp only [Act.put, List.getElem_toArray, List.getElem_cons_zero, List.getElem_cons_succ, List.setIfInBounds_toArray, List.set_cons_zero, List.set_cons_succ]
      refine wpAny_take (i := 12) (v := ?_) rfl (by kernel_rfl) (by kernel_rfl) (by kernel_rfl) (fun _ _ _ h => h) (Or.inl ⟨by rfl, ?hy12⟩) ?_
      case hy12 => intro w; go_simp; first | done | (with_reducible rfl)
      simp only [Act.put, List.getElem_toArray, List.getElem_cons_zero, List.getElem_cons_succ, List.setIfInBounds_toArray, List.set_cons_zero, List.set_cons_succ]
      refine wpAny_ready (rs := [13]) (by kernel_rfl) (by simp) ?_
      refine AllReady.cons rfl (fun K hK => ?_) AllReady.nil
      rw [if_pos (by rfl)]
      refine wp_store_mid 26 (.tmp 25) (.tmp 20) rfl g (a * 32) (idc xa).toArray rfl rfl (by rw [List.size_toArray, l1a]; exact HRTa.out.2.2.1) (by rw [List.size_toArray]; exact s1a) (by simpa using idc_one xa) ?_
      refine hK _ _ ?_
      clear hK K
      simp only [Act.put, List.getElem_toArray, List.getElem_cons_zero, List.getElem_cons_succ, List.setIfInBounds_toArray, List.set_cons_zero, List.set_cons_succ]
      refine wpAny_take (i := 14) (v := ?_) rfl (by kernel_rfl) (by kernel_rfl) (by kernel_rfl) (fun _ _ _ h => h) (Or.inl ⟨by rfl, ?hy14⟩) ?_
      case hy14 => intro w; go_simp; first | done | (with_reducible rfl)
      simp only [Act.put, List.getElem_toArray, List.getElem_cons_zero, List.getElem_cons_succ, List.setIfInBounds_toArray, List.set_cons_zero, List.set_cons_succ]
      refine wpAny_ready (rs := [15]) (by kernel_rfl) (by simp) ?_
      refine AllReady.cons rfl (fun K hK => ?_) AllReady.nil
      rw [if_pos (by rfl)]
      refine wp_store_mid 26 (.tmp 26) (.tmp 24) rfl g (pv * 32) (idc ya).toArray rfl rfl (by rw [List.size_toArray, l0a]; exact HRTa.out.2.2.2) (by rw [List.size_toArray]; exact s0a) (by simpa using idc_one ya) ?_
      refine hK _ _ ?_
      clear hK K
      simp only [Act.put, List.getElem_toArray, List.getElem_cons_zero, List.getElem_cons_succ, List.setIfInBounds_toArray, List.set_cons_zero, List.set_cons_succ]
      refine wpAny_done (by kernel_rfl) ?_ _
      go_wp2
      go_meet
      exact ⟨HSWa.out, by rw [sc_size, sc_size]; exact Nat.le_refl _⟩
  case rest =>
    have HSa := hide hcut.1
    have hga : g < wc.heap.size := by have := hcut.2; have := hg; omega
    skip
    clear hcut HSWa HRTa
    go_wp2_with fail
    go_loopw [11, 12] (fun iv jv wr => ∃ (i j : Nat) (dk : Array ID), a < i ∧ i ≤ 1025 ∧ j < b ∧ iv = .int .i64 i ∧ jv = .int .i64 j ∧ dk.size = d.size ∧ SR w g dk wr ∧ Sort.partEqLoop Sort.ltStr a i j dk = Sort.partitionEqual Sort.ltStr d a b pv) (fun iv jv _ => (intOf jv + 1 - intOf iv).toNat)
    case atStart => exact ⟨a', b', Sort.swp d a pv, ha1, by omega, hb1, rfl, rfl, size_swp' _ _ _, HSa.out, HE.out.symm⟩
    case round =>
      obtain ⟨i, j, dk, hi, hi2, hj, rfl, rfl, hdk, hS, hO⟩ := hrel
      have HS := hide (And.intro hS hO)
      clear hS hO HSa HE
      go_wp2_with fail
      go_loopw [11] (fun v wr => ∃ m : Nat, i ≤ m ∧ m ≤ 1025 ∧ (m ≤ i ∨ m ≤ j + 1) ∧ v = .int .i64 m ∧ SR w g dk wr ∧ Sort.scanUp (fun x => !Sort.ltStr dk[a]! x) dk j m = Sort.scanUp (fun x => !Sort.ltStr dk[a]! x) dk j i) (fun v _ => ((j : Int) + 1 - intOf v).toNat)
      case atStart => exact ⟨i, Nat.le_refl _, by omega, Or.inl (Nat.le_refl _), rfl, HS.out.1, rfl⟩
      case round =>
        obtain ⟨mb, hm1b, hm2b, hm3b, rfl, hSb, hEb⟩ := hrel
        have hgqb : g < wr.heap.size := by have := hSb.fw.size; omega
        have HQb := hide (And.intro hSb hEb)
        clear hSb hEb
        obtain ⟨Wb, rfl⟩ : ∃ W, W = wr := ⟨_, rfl⟩
        go_upto_region 3 with fail
        go_cut [47] (fun s wc => s = .bool (decide (mb ≤ j) && (!Sort.ltStr dk[a]! dk[mb]!)) ∧ Below Wb.heap.size Wb wc)
        case first =>
          by_cases hmj : mb ≤ j
          · have hmi : ((mb : Nat) : Int) ≤ j := by omega
            have r1b := HQb.out.1.row a (by omega)
            have r0b := HQb.out.1.row mb (by omega)
            have o1b := HQb.out.1.ok a (by omega)
            have o0b := HQb.out.1.ok mb (by omega)
            obtain ⟨xb, hxb⟩ : ∃ x, x = dk[a]! := ⟨_, rfl⟩
            obtain ⟨yb, hyb⟩ : ∃ y, y = dk[mb]! := ⟨_, rfl⟩
            rw [← hxb] at r1b o1b
            rw [← hyb] at r0b o0b
            have b1b : ((a : Nat) : Int) < d.size := by omega
            have b0b : ((mb : Nat) : Int) < d.size := by omega
            have b3b : a < d.size := by omega
            have b2b : mb < d.size := by omega
            have s1b : (Yba.prog.info? 26).map (·.size) = some (idc xb).length := by rw [idc_len, o1b]; exact info26
            have s0b : (Yba.prog.info? 26).map (·.size) = some (idc yb).length := by rw [idc_len, o0b]; exact info26
            have HXb := hide (And.intro hxb hyb)
            have HRb := hide (And.intro r1b r0b)
            clear hxb hyb r1b r0b
            go_wp2_with fail
            refine wp_region_held_drew (S := fun w' => w'.rangeAt g (a * 32) (idc xb) ∧ w'.rangeAt g (mb * 32) (idc yb)) (by kernel_rfl) (R2 HRb.out.1 HRb.out.2 hgqb ((Below.refl _ _).drew)) (fun hHeld => ?_)
            refine wpAnyH_take (i := 0) (v := ?_) rfl (by kernel_rfl) (by kernel_rfl) (by kernel_rfl) (fun _ _ _ h => h) (Or.inl ⟨by rfl, ?hy0⟩) hHeld ?_
            case hy0 => intro w hSw; go_simp; first | done | (with_reducible rfl)
            simp only [Act.put, List.getElem_toArray, List.getElem_cons_zero, List.getElem_cons_succ, List.setIfInBounds_toArray, List.set_cons_zero, List.set_cons_succ]
            refine wpAnyH_take (i := 1) (v := ?_) rfl (by kernel_rfl) (by kernel_rfl) (by kernel_rfl) (fun _ _ _ h => h) (Or.inl ⟨by rfl, ?hy1⟩) hHeld ?_
            case hy1 => intro w hSw; go_simp; first | done | (with_reducible rfl)
            simp only [Act.put, List.getElem_toArray, List.getElem_cons_zero, List.getElem_cons_succ, List.setIfInBounds_toArray, List.set_cons_zero, List.set_cons_succ]
            refine wpAnyH_take (i := 2) (v := ?_) rfl (by kernel_rfl) (by kernel_rfl) (by kernel_rfl) (fun _ _ _ h => h) (Or.inl ⟨by rfl, ?hy2⟩) hHeld ?_
            case hy2 => intro w hSw; go_simp; first | done | (with_reducible rfl)
            simp only [Act.put, List.getElem_toArray, List.getElem_cons_zero, List.getElem_cons_succ, List.setIfInBounds_toArray, List.set_cons_zero, List.set_cons_succ]
            refine wpAnyH_take (i := 3) (v := ?_) rfl (by kernel_rfl) (by kernel_rfl) (by kernel_rfl) (fun _ _ _ h => h) (Or.inl ⟨by rfl, ?hy3⟩) hHeld ?_
            case hy3 => intro w hSw; go_simp; first | done | (with_reducible rfl)
            simp only [Act.put, List.getElem_toArray, List.getElem_cons_zero, List.getElem_cons_succ, List.setIfInBounds_toArray, List.set_cons_zero, List.set_cons_succ]
            refine wpAnyH_take (i := 4) (v := ?_) rfl (by kernel_rfl) (by kernel_rfl) (by kernel_rfl) (fun _ _ _ h => h) (Or.inl ⟨by rfl, ?hy4⟩) hHeld ?_
            case hy4 => intro w hSw; go_simp; first | done | (with_reducible rfl)
            simp only [Act.put, List.getElem_toArray, List.getElem_cons_zero, List.getElem_cons_succ, List.setIfInBounds_toArray, List.set_cons_zero, List.set_cons_succ]
            refine wpAnyH_take (i := 5) (v := ?_) rfl (by kernel_rfl) (by kernel_rfl) (by kernel_rfl) (fun _ _ _ h => h) (Or.inl ⟨by rfl, ?hy5⟩) hHeld ?_
            case hy5 => intro w hSw; go_simp; first | done | (with_reducible rfl)
            simp only [Act.put, List.getElem_toArray, List.getElem_cons_zero, List.getElem_cons_succ, List.setIfInBounds_toArray, List.set_cons_zero, List.set_cons_succ]
            refine wpAnyH_take (i := 6) (v := ?_) rfl (by kernel_rfl) (by kernel_rfl) (by kernel_rfl) (fun _ _ _ h => h) (Or.inl ⟨by rfl, ?hy6⟩) hHeld ?_
            case hy6 => intro w hSw; go_simp; first | done | (with_reducible rfl)
            simp only [Act.put, List.getElem_toArray, List.getElem_cons_zero, List.getElem_cons_succ, List.setIfInBounds_toArray, List.set_cons_zero, List.set_cons_succ]
            refine wpAnyH_take (i := 7) (v := ?_) rfl (by kernel_rfl) (by kernel_rfl) (by kernel_rfl) (fun _ _ _ h => h) (Or.inl ⟨by rfl, ?hy7⟩) hHeld ?_
            case hy7 => intro w hSw; go_simp; first | done | (with_reducible rfl)
            simp only [Act.put, List.getElem_toArray, List.getElem_cons_zero, List.getElem_cons_succ, List.setIfInBounds_toArray, List.set_cons_zero, List.set_cons_succ]
            refine wpAnyH_take (i := 8) (v := _) rfl (by kernel_rfl) (by kernel_rfl) (by kernel_rfl) (fun _ _ _ h => h) (yieldsIf_load_mid (by rfl) 26 (.tmp 38) rfl g (a * 32) rfl (idc xb) _ (fun _ h => h.1) Yba.underlying26 rfl s1b) hHeld ?_
            simp only [Act.put, List.getElem_toArray, List.getElem_cons_zero, List.getElem_cons_succ, List.setIfInBounds_toArray, List.set_cons_zero, List.set_cons_succ]
            refine wpAnyH_take (i := 9) (v := ?_) rfl (by kernel_rfl) (by kernel_rfl) (by kernel_rfl) (fun _ _ _ h => h) (Or.inl ⟨by rfl, ?hy9⟩) hHeld ?_
            case hy9 => intro w hSw; go_simp; first | done | (with_reducible rfl)
            simp only [Act.put, List.getElem_toArray, List.getElem_cons_zero, List.getElem_cons_succ, List.setIfInBounds_toArray, List.set_cons_zero, List.set_cons_succ]
            refine wpAnyH_take (i := 10) (v := ?_) rfl (by kernel_rfl) (by kernel_rfl) (by kernel_rfl) (fun _ _ _ h => h) (Or.inl ⟨by rfl, ?hy10⟩) hHeld ?_
            case hy10 => intro w hSw; go_simp; first | done | (with_reducible rfl)
            simp only [Act.put, List.getElem_toArray, List.getElem_cons_zero, List.getElem_cons_succ, List.setIfInBounds_toArray, List.set_cons_zero, List.set_cons_succ]
            refine wpAnyH_take (i := 11) (v := ?_) rfl (by kernel_rfl) (by kernel_rfl) (by kernel_rfl) (fun _ _ _ h => h) (Or.inl ⟨by rfl, ?hy11⟩) hHeld ?_
            case hy11 => intro w hSw; go_simp; first | done | (with_reducible rfl)
            simp only [Act.put, List.getElem_toArray, List.getElem_cons_zero, List.getElem_cons_succ, List.setIfInBounds_toArray, List.set_cons_zero, List.set_cons_succ]
            refine wpAnyH_take (i := 12) (v := _) rfl (by kernel_rfl) (by kernel_rfl) (by kernel_rfl) (fun _ _ _ h => h) (yieldsIf_load_mid (by rfl) 26 (.tmp 42) rfl g (mb * 32) rfl (idc yb) _ (fun _ h => h.2) Yba.underlying26 rfl s0b) hHeld ?_
            simp only [Act.put, List.getElem_toArray, List.getElem_cons_zero, List.getElem_cons_succ, List.setIfInBounds_toArray, List.set_cons_zero, List.set_cons_succ]
            refine wpAnyH_ready (rs := [13]) (by kernel_rfl) (by simp) ?_
            refine AllReadyH.cons rfl (fun K hK => ?_) AllReadyH.nil
            rw [if_pos (by rfl)]
            go_simp
            refine (order_any xb yb _ o1b o0b).mono ?_
            rintro e w5 ⟨⟨cc, rfl, hcc⟩, hw5⟩; have HB5 := hide (un_drew hw5); have HC5 := hide hcc; clear hw5 hcc
            clear hHeld
            refine hK.out _ _ (R2 HRb.out.1 HRb.out.2 hgqb HB5.out) (fun hHeld => ?_)
            clear hK K
            refine wpAnyH_take (i := 14) (v := ?_) rfl (by kernel_rfl) (by kernel_rfl) (by kernel_rfl) (fun _ _ _ h => h) (Or.inl ⟨by rfl, ?hy14⟩) hHeld ?_
            case hy14 => intro w hSw; go_simp; first | done | (with_reducible rfl)
            simp only [Act.put, List.getElem_toArray, List.getElem_cons_zero, List.getElem_cons_succ, List.setIfInBounds_toArray, List.set_cons_zero, List.set_cons_succ]
            refine wpAnyH_take (i := 15) (v := ?_) rfl (by kernel_rfl) (by kernel_rfl) (by kernel_rfl) (fun _ _ _ h => h) (Or.inl ⟨by rfl, ?hy15⟩) hHeld ?_
            case hy15 => intro w hSw; go_simp; first | done | (with_reducible rfl)
            simp only [Act.put, List.getElem_toArray, List.getElem_cons_zero, List.getElem_cons_succ, List.setIfInBounds_toArray, List.set_cons_zero, List.set_cons_succ]
            refine wpAnyH_take (i := 16) (v := ?_) rfl (by kernel_rfl) (by kernel_rfl) (by kernel_rfl) (fun _ _ _ h => h) (Or.inl ⟨by rfl, ?hy16⟩) hHeld ?_
            case hy16 => intro w hSw; go_simp; first | done | (with_reducible rfl)
            simp only [Act.put, List.getElem_toArray, List.getElem_cons_zero, List.getElem_cons_succ, List.setIfInBounds_toArray, List.set_cons_zero, List.set_cons_succ]
            refine wpAnyH_done (by kernel_rfl) ?_ _
            go_wp2
            go_meet
            have HL : Sort.ltStr xb yb = decide (cc < 0) := (decide_eq_decide.2 HC5.out).symm
            exact ⟨by rw [← HXb.out.1, ← HXb.out.2, HL, decide_eq_true hmj, Bool.true_and]; first | done | simp, HB5.out⟩
          · have hmi : ¬ ((mb : Nat) : Int) ≤ j := by omega
            have hmd : decide (mb ≤ j) = false := decide_eq_false hmj
            go_wp2_with fail
            go_quiet (fail)
            go_wp2
            go_meet
            exact ⟨by rw [hmd, Bool.false_and], bdrewN⟩
        case rest =>
          obtain ⟨hs, hbc⟩ := hcut
          subst hs
          have HSb := hide (HQb.out.1.below hgqb hbc)
          have hgb : g < wc.heap.size := by have := hbc.size; have := hgqb; omega
          clear hbc
          generalize hbb : (decide (mb ≤ j) && (!Sort.ltStr dk[a]! dk[mb]!)) = bb
          cases bb with
          | true =>
            have hmj : mb ≤ j := of_decide_eq_true (Bool.and_eq_true_iff.1 hbb).1
            have HE2 : Hid (Sort.scanUp (fun x => !Sort.ltStr dk[a]! x) dk j (mb + 1) = Sort.scanUp (fun x => !Sort.ltStr dk[a]! x) dk j i) := ⟨by rw [← HQb.out.2, su_step _ _ _ mb, if_pos hbb]⟩
            have hw1 := wrap_in ((mb : Int) + 1) (by omega) (by omega)
            clear hbb
            go_wp2
            go_roundw
            case rel => exact ⟨mb + 1, by omega, by omega, by omega, by go_num, HSb.out, HE2.out⟩
            case measure => simp [intOf] <;> omega
          | false =>
            have Hb : Hid (mb = Sort.scanUp (fun x => !Sort.ltStr dk[a]! x) dk j i) := ⟨by rw [← HQb.out.2, su_step _ _ _ mb, if_neg (by rw [hbb]; exact Bool.false_ne_true)]⟩
            clear hbb HQb hgqb
            go_wp2_with fail
            go_loopw [12] (fun v wr => ∃ m : Nat, m ≤ j ∧ v = .int .i64 m ∧ SR w g dk wr ∧ Sort.scanDown (fun x => Sort.ltStr dk[a]! x) dk mb m = Sort.scanDown (fun x => Sort.ltStr dk[a]! x) dk mb j) (fun v _ => (intOf v).toNat)
            case atStart => exact ⟨j, Nat.le_refl _, rfl, HSb.out, rfl⟩
            case round =>
              obtain ⟨mc, hm1c, rfl, hSc, hEc⟩ := hrel
              have hgqc : g < wr.heap.size := by have := hSc.fw.size; omega
              have HQc := hide (And.intro hSc hEc)
              clear hSc hEc
              obtain ⟨Wc, rfl⟩ : ∃ W, W = wr := ⟨_, rfl⟩
              go_upto_region 5 with fail
              go_cut [65] (fun s wc => s = .bool (decide (mb ≤ mc) && (Sort.ltStr dk[a]! dk[mc]!)) ∧ Below Wc.heap.size Wc wc)
              case first =>
                by_cases hmj : mb ≤ mc
                · have hmi : ((mb : Nat) : Int) ≤ mc := by omega
                  have r1c := HQc.out.1.row a (by omega)
                  have r0c := HQc.out.1.row mc (by omega)
                  have o1c := HQc.out.1.ok a (by omega)
                  have o0c := HQc.out.1.ok mc (by omega)
                  obtain ⟨xc, hxc⟩ : ∃ x, x = dk[a]! := ⟨_, rfl⟩
                  obtain ⟨yc, hyc⟩ : ∃ y, y = dk[mc]! := ⟨_, rfl⟩
                  rw [← hxc] at r1c o1c
                  rw [← hyc] at r0c o0c
                  have b1c : ((a : Nat) : Int) < d.size := by omega
                  have b0c : ((mc : Nat) : Int) < d.size := by omega
                  have b3c : a < d.size := by omega
                  have b2c : mc < d.size := by omega
                  have s1c : (Yba.prog.info? 26).map (·.size) = some (idc xc).length := by rw [idc_len, o1c]; exact info26
                  have s0c : (Yba.prog.info? 26).map (·.size) = some (idc yc).length := by rw [idc_len, o0c]; exact info26
                  have HXc := hide (And.intro hxc hyc)
                  have HRc := hide (And.intro r1c r0c)
                  clear hxc hyc r1c r0c
                  go_wp2_with fail
                  refine wp_region_held_drew (S := fun w' => w'.rangeAt g (a * 32) (idc xc) ∧ w'.rangeAt g (mc * 32) (idc yc)) (by kernel_rfl) (R2 HRc.out.1 HRc.out.2 hgqc ((Below.refl _ _).drew)) (fun hHeld => ?_)
                  refine wpAnyH_take (i := 0) (v := ?_) rfl (by kernel_rfl) (by kernel_rfl) (by kernel_rfl) (fun _ _ _ h => h) (Or.inl ⟨by rfl, ?hy0⟩) hHeld ?_
                  case hy0 => intro w hSw; go_simp; first | done | (with_reducible rfl)
                  simp only [Act.put, List.getElem_toArray, List.getElem_cons_zero, List.getElem_cons_succ, List.setIfInBounds_toArray, List.set_cons_zero, List.set_cons_succ]
                  refine wpAnyH_take (i := 1) (v := ?_) rfl (by kernel_rfl) (by kernel_rfl) (by kernel_rfl) (fun _ _ _ h => h) (Or.inl ⟨by rfl, ?hy1⟩) hHeld ?_
                  case hy1 => intro w hSw; go_simp; first | done | (with_reducible rfl)
                  simp only [Act.put, List.getElem_toArray, List.getElem_cons_zero, List.getElem_cons_succ, List.setIfInBounds_toArray, List.set_cons_zero, List.set_cons_succ]
                  refine wpAnyH_take (i := 2) (v := ?_) rfl (by kernel_rfl) (by kernel_rfl) (by kernel_rfl) (fun _ _ _ h => h) (Or.inl ⟨by rfl, ?hy2⟩) hHeld ?_
                  case hy2 => intro w hSw; go_simp; first | done | (with_reducible rfl)
                  simp only [Act.put, List.getElem_toArray, List.getElem_cons_zero, List.getElem_cons_succ, List.setIfInBounds_toArray, List.set_cons_zero, List.set_cons_succ]
                  refine wpAnyH_take (i := 3) (v := ?_) rfl (by kernel_rfl) (by kernel_rfl) (by kernel_rfl) (fun _ _ _ h => h) (Or.inl ⟨by rfl, ?hy3⟩) hHeld ?_
                  case hy3 => intro w hSw; go_simp; first | done | (with_reducible rfl)
                  simp only [Act.put, List.getElem_toArray, List.getElem_cons_zero, List.getElem_cons_succ, List.setIfInBounds_toArray, List.set_cons_zero, List.set_cons_succ]
                  refine wpAnyH_take (i := 4) (v := ?_) rfl (by kernel_rfl) (by kernel_rfl) (by kernel_rfl) (fun _ _ _ h => h) (Or.inl ⟨by rfl, ?hy4⟩) hHeld ?_
                  case hy4 => intro w hSw; go_simp; first | done | (with_reducible rfl)
                  simp only [Act.put, List.getElem_toArray, List.getElem_cons_zero, List.getElem_cons_succ, List.setIfInBounds_toArray, List.set_cons_zero, List.set_cons_succ]
                  refine wpAnyH_take (i := 5) (v := ?_) rfl (by kernel_rfl) (by kernel_rfl) (by kernel_rfl) (fun _ _ _ h => h) (Or.inl ⟨by rfl, ?hy5⟩) hHeld ?_
                  case hy5 => intro w hSw; go_simp; first | done | (with_reducible rfl)
                  simp only [Act.put, List.getElem_toArray, List.getElem_cons_zero, List.getElem_cons_succ, List.setIfInBounds_toArray, List.set_cons_zero, List.set_cons_succ]
                  refine wpAnyH_take (i := 6) (v := ?_) rfl (by kernel_rfl) (by kernel_rfl) (by kernel_rfl) (fun _ _ _ h => h) (Or.inl ⟨by rfl, ?hy6⟩) hHeld ?_
                  case hy6 => intro w hSw; go_simp; first | done | (with_reducible rfl)
                  simp only [Act.put, List.getElem_toArray, List.getElem_cons_zero, List.getElem_cons_succ, List.setIfInBounds_toArray, List.set_cons_zero, List.set_cons_succ]
                  refine wpAnyH_take (i := 7) (v := ?_) rfl (by kernel_rfl) (by kernel_rfl) (by kernel_rfl) (fun _ _ _ h => h) (Or.inl ⟨by rfl, ?hy7⟩) hHeld ?_
                  case hy7 => intro w hSw; go_simp; first | done | (with_reducible rfl)
                  simp only [Act.put, List.getElem_toArray, List.getElem_cons_zero, List.getElem_cons_succ, List.setIfInBounds_toArray, List.set_cons_zero, List.set_cons_succ]
                  refine wpAnyH_take (i := 8) (v := _) rfl (by kernel_rfl) (by kernel_rfl) (by kernel_rfl) (fun _ _ _ h => h) (yieldsIf_load_mid (by rfl) 26 (.tmp 57) rfl g (a * 32) rfl (idc xc) _ (fun _ h => h.1) Yba.underlying26 rfl s1c) hHeld ?_
                  simp only [Act.put, List.getElem_toArray, List.getElem_cons_zero, List.getElem_cons_succ, List.setIfInBounds_toArray, List.set_cons_zero, List.set_cons_succ]
                  refine wpAnyH_take (i := 9) (v := ?_) rfl (by kernel_rfl) (by kernel_rfl) (by kernel_rfl) (fun _ _ _ h => h) (Or.inl ⟨by rfl, ?hy9⟩) hHeld ?_
                  case hy9 => intro w hSw; go_simp; first | done | (with_reducible rfl)
                  simp only [Act.put, List.getElem_toArray, List.getElem_cons_zero, List.getElem_cons_succ, List.setIfInBounds_toArray, List.set_cons_zero, List.set_cons_succ]
                  refine wpAnyH_take (i := 10) (v := ?_) rfl (by kernel_rfl) (by kernel_rfl) (by kernel_rfl) (fun _ _ _ h => h) (Or.inl ⟨by rfl, ?hy10⟩) hHeld ?_
                  case hy10 => intro w hSw; go_simp; first | done | (with_reducible rfl)
                  simp only [Act.put, List.getElem_toArray, List.getElem_cons_zero, List.getElem_cons_succ, List.setIfInBounds_toArray, List.set_cons_zero, List.set_cons_succ]
                  refine wpAnyH_take (i := 11) (v := ?_) rfl (by kernel_rfl) (by kernel_rfl) (by kernel_rfl) (fun _ _ _ h => h) (Or.inl ⟨by rfl, ?hy11⟩) hHeld ?_
                  case hy11 => intro w hSw; go_simp; first | done | (with_reducible rfl)
                  simp only [Act.put, List.getElem_toArray, List.getElem_cons_zero, List.getElem_cons_succ, List.setIfInBounds_toArray, List.set_cons_zero, List.set_cons_succ]
                  refine wpAnyH_take (i := 12) (v := _) rfl (by kernel_rfl) (by kernel_rfl) (by kernel_rfl) (fun _ _ _ h => h) (yieldsIf_load_mid (by rfl) 26 (.tmp 61) rfl g (mc * 32) rfl (idc yc) _ (fun _ h => h.2) Yba.underlying26 rfl s0c) hHeld ?_
                  simp only [Act.put, List.getElem_toArray, List.getElem_cons_zero, List.getElem_cons_succ, List.setIfInBounds_toArray, List.set_cons_zero, List.set_cons_succ]
                  refine wpAnyH_ready (rs := [13]) (by kernel_rfl) (by simp) ?_
                  refine AllReadyH.cons rfl (fun K hK => ?_) AllReadyH.nil
                  rw [if_pos (by rfl)]
                  go_simp
                  refine (order_any xc yc _ o1c o0c).mono ?_
                  rintro e w5 ⟨⟨cc, rfl, hcc⟩, hw5⟩; have HB5 := hide (un_drew hw5); have HC5 := hide hcc; clear hw5 hcc
                  clear hHeld
                  refine hK.out _ _ (R2 HRc.out.1 HRc.out.2 hgqc HB5.out) (fun hHeld => ?_)
                  clear hK K
                  refine wpAnyH_take (i := 14) (v := ?_) rfl (by kernel_rfl) (by kernel_rfl) (by kernel_rfl) (fun _ _ _ h => h) (Or.inl ⟨by rfl, ?hy14⟩) hHeld ?_
                  case hy14 => intro w hSw; go_simp; first | done | (with_reducible rfl)
                  simp only [Act.put, List.getElem_toArray, List.getElem_cons_zero, List.getElem_cons_succ, List.setIfInBounds_toArray, List.set_cons_zero, List.set_cons_succ]
                  refine wpAnyH_take (i := 15) (v := ?_) rfl (by kernel_rfl) (by kernel_rfl) (by kernel_rfl) (fun _ _ _ h => h) (Or.inl ⟨by rfl, ?hy15⟩) hHeld ?_
                  case hy15 => intro w hSw; go_simp; first | done | (with_reducible rfl)
                  simp only [Act.put, List.getElem_toArray, List.getElem_cons_zero, List.getElem_cons_succ, List.setIfInBounds_toArray, List.set_cons_zero, List.set_cons_succ]
                  refine wpAnyH_done (by kernel_rfl) ?_ _
                  go_wp2
                  go_meet
                  have HL : Sort.ltStr xc yc = decide (cc < 0) := (decide_eq_decide.2 HC5.out).symm
                  exact ⟨by rw [← HXc.out.1, ← HXc.out.2, HL, decide_eq_true hmj, Bool.true_and]; first | done | simp, HB5.out⟩
                · have hmi : ¬ ((mb : Nat) : Int) ≤ mc := by omega
                  have hmd : decide (mb ≤ mc) = false := decide_eq_false hmj
                  go_wp2_with fail
                  go_quiet (fail)
                  go_wp2
                  go_meet
                  exact ⟨by rw [hmd, Bool.false_and], bdrewN⟩
              case rest =>
                obtain ⟨hs, hbc⟩ := hcut
                subst hs
                have HSc := hide (HQc.out.1.below hgqc hbc)
                have hgc : g < wc.heap.size := by have := hbc.size; have := hgqc; omega
                clear hbc
                generalize hbb : (decide (mb ≤ mc) && (Sort.ltStr dk[a]! dk[mc]!)) = bb
                cases bb with
                | true =>
                  have hmj : mb ≤ mc := of_decide_eq_true (Bool.and_eq_true_iff.1 hbb).1
                  obtain ⟨m', hm'⟩ : ∃ m', m' = mc - 1 := ⟨_, rfl⟩
                  have HE2 : Hid (Sort.scanDown (fun x => Sort.ltStr dk[a]! x) dk mb m' = Sort.scanDown (fun x => Sort.ltStr dk[a]! x) dk mb j) := ⟨by rw [← HQc.out.2, sw_step _ _ _ mc (by omega), if_pos hbb, hm']⟩
                  have hw1 : IntKind.i64.wrap ((mc : Int) - 1) = m' := by rw [wrap_in _ (by omega) (by omega)]; omega
                  have hm2 : m' < mc := by omega
                  clear hbb hm'
                  go_wp2
                  go_roundw
                  case rel => exact ⟨m', by omega, by go_num, HSc.out, HE2.out⟩
                  case measure => simp [intOf] <;> omega
                | false =>
                  have Hc : Hid (mc = Sort.scanDown (fun x => Sort.ltStr dk[a]! x) dk mb j) := ⟨by rw [← HQc.out.2, sw_step _ _ _ mc (by omega), if_neg (by rw [hbb]; exact Bool.false_ne_true)]⟩
                  clear hbb HQc hgqc
                  have HP := hide (pe_step a i j dk Hb.out Hc.out hm1b hm1c)
                  clear Hb Hc
                  by_cases hgt : mb > mc
                  · have z : (mc : Int) < mb := by omega
                    have HF : Hid (Sort.partitionEqual Sort.ltStr d a b pv = (mb, dk)) := ⟨by rw [← HS.out.2, HP.out, if_pos hgt]⟩
                    go_wp2
                    go_ret
                    rw [HF.out]
                    exact ⟨rfl, HSc.out⟩
                  · have z : ¬ (mc : Int) < mb := by omega
                    obtain ⟨j', hj'⟩ : ∃ j', j' = mc - 1 := ⟨_, rfl⟩
                    have z1 := wrap_in ((mb : Int) + 1) (by omega) (by omega)
                    have z2 : IntKind.i64.wrap ((mc : Int) - 1) = j' := by rw [wrap_in _ (by omega) (by omega)]; omega
                    have HF : Hid (Sort.partEqLoop Sort.ltStr a (mb + 1) j' (Sort.swp dk mb mc) = Sort.partitionEqual Sort.ltStr d a b pv) := ⟨by rw [← HS.out.2, HP.out, if_neg hgt, hj']⟩
                    have hj2 : j' < mc := by omega
                    clear hj' HP
                    obtain ⟨W1, rfl⟩ : ∃ W1, W1 = wc := ⟨_, rfl⟩
                    have hSde := HSc.out.below hgc ((Below.refl _ _).drew)
                    have HSWe := hSde.swap (i := mb) (j := mc) (by omega) (by omega)
                    have r1e := hSde.row mc (by omega)
                    have r0e := hSde.row mb (by omega)
                    have o1e := hSde.ok mc (by omega)
                    have o0e := hSde.ok mb (by omega)
                    have t0e := hSde.there (x := mb) (by omega)
                    have t1e := (hSde.store (i := mb) (by omega) dk[mc]! o1e).there (x := mc) (by rw [Array.size_setIfInBounds]; omega)
                    obtain ⟨xe, hxe⟩ : ∃ x, x = dk[mc]! := ⟨_, rfl⟩
                    obtain ⟨ye, hye⟩ : ∃ y, y = dk[mb]! := ⟨_, rfl⟩
                    rw [← hxe] at r1e o1e t1e
                    rw [← hye] at r0e o0e
                    rw [← hxe, ← hye] at HSWe
                    have HSWe := hide HSWe
                    have b1e : ((mc : Nat) : Int) < d.size := by omega
                    have b0e : ((mb : Nat) : Int) < d.size := by omega
                    have b3e : mc < d.size := by omega
                    have b2e : mb < d.size := by omega
                    have s1e : (Yba.prog.info? 26).map (·.size) = some (idc xe).length := by rw [idc_len, o1e]; exact info26
                    have s0e : (Yba.prog.info? 26).map (·.size) = some (idc ye).length := by rw [idc_len, o0e]; exact info26
                    have l1e : (idc xe).length = 32 := by rw [idc_len, o1e]
                    have l0e : (idc ye).length = 32 := by rw [idc_len, o0e]
                    have HRTe := hide (And.intro r1e (And.intro r0e (And.intro t0e t1e)))
                    clear hxe hye r1e r0e t0e t1e hSde
                    go_upto_region 8 with fail
                    go_cut [] (fun wc => SR w g (Sort.swp dk mb mc) wc ∧ W1.heap.size ≤ wc.heap.size)
                    case first =>
                      go_wp2_with fail
                      refine wp_region_any (by kernel_rfl) ?_
                      change wpAny _ _ _ _ _ _ _ (World.drew _)
                      refine wpAny_take (i := 0) (v := ?_) rfl (by kernel_rfl) (by kernel_rfl) (by kernel_rfl) (fun _ _ _ h => h) (Or.inl ⟨by rfl, ?hy0⟩) ?_
                      case hy0 => intro w; go_simp; first | done | (with_reducible rfl)
                      simp only [Act.put, List.getElem_toArray, List.getElem_cons_zero, List.getElem_cons_succ, List.setIfInBounds_toArray, List.set_cons_zero, List.set_cons_succ]
                      refine wpAny_take (i := 1) (v := ?_) rfl (by kernel_rfl) (by kernel_rfl) (by kernel_rfl) (fun _ _ _ h => h) (Or.inl ⟨by rfl, ?hy1⟩) ?_
                      case hy1 => intro w; go_simp; first | done | (with_reducible rfl)
                      simp only [Act.put, List.getElem_toArray, List.getElem_cons_zero, List.getElem_cons_succ, List.setIfInBounds_toArray, List.set_cons_zero, List.set_cons_succ]
                      refine wpAny_take (i := 2) (v := ?_) rfl (by kernel_rfl) (by kernel_rfl) (by kernel_rfl) (fun _ _ _ h => h) (Or.inl ⟨by rfl, ?hy2⟩) ?_
                      case hy2 => intro w; go_simp; first | done | (with_reducible rfl)
                      simp only [Act.put, List.getElem_toArray, List.getElem_cons_zero, List.getElem_cons_succ, List.setIfInBounds_toArray, List.set_cons_zero, List.set_cons_succ]
                      refine wpAny_take (i := 3) (v := ?_) rfl (by kernel_rfl) (by kernel_rfl) (by kernel_rfl) (fun _ _ _ h => h) (Or.inl ⟨by rfl, ?hy3⟩) ?_
                      case hy3 => intro w; go_simp; first | done | (with_reducible rfl)
                      simp only [Act.put, List.getElem_toArray, List.getElem_cons_zero, List.getElem_cons_succ, List.setIfInBounds_toArray, List.set_cons_zero, List.set_cons_succ]
                      refine wpAny_take (i := 4) (v := ?_) rfl (by kernel_rfl) (by kernel_rfl) (by kernel_rfl) (fun _ _ _ h => h) (Or.inl ⟨by rfl, ?hy4⟩) ?_
                      case hy4 => intro w; go_simp; first | done | (with_reducible rfl)
                      simp only [Act.put, List.getElem_toArray, List.getElem_cons_zero, List.getElem_cons_succ, List.setIfInBounds_toArray, List.set_cons_zero, List.set_cons_succ]
                      refine wpAny_take (i := 5) (v := ?_) rfl (by kernel_rfl) (by kernel_rfl) (by kernel_rfl) (fun _ _ _ h => h) (Or.inl ⟨by rfl, ?hy5⟩) ?_
                      case hy5 => intro w; go_simp; first | done | (with_reducible rfl)
                      simp only [Act.put, List.getElem_toArray, List.getElem_cons_zero, List.getElem_cons_succ, List.setIfInBounds_toArray, List.set_cons_zero, List.set_cons_succ]
                      refine wpAny_take (i := 6) (v := ?_) rfl (by kernel_rfl) (by kernel_rfl) (by kernel_rfl) (fun _ _ _ h => h) (Or.inl ⟨by rfl, ?hy6⟩) ?_
                      case hy6 => intro w; go_simp; first | done | (with_reducible rfl)
                      simp only [Act.put, List.getElem_toArray, List.getElem_cons_zero, List.getElem_cons_succ, List.setIfInBounds_toArray, List.set_cons_zero, List.set_cons_succ]
                      refine wpAny_take (i := 8) (v := ?_) rfl (by kernel_rfl) (by kernel_rfl) (by kernel_rfl) (fun _ _ _ h => h) (Or.inl ⟨by rfl, ?hy8⟩) ?_
                      case hy8 => intro w; go_simp; first | done | (with_reducible rfl)
                      simp only [Act.put, List.getElem_toArray, List.getElem_cons_zero, List.getElem_cons_succ, List.setIfInBounds_toArray, List.set_cons_zero, List.set_cons_succ]
                      refine wpAny_take (i := 9) (v := ?_) rfl (by kernel_rfl) (by kernel_rfl) (by kernel_rfl) (fun _ _ _ h => h) (Or.inl ⟨by rfl, ?hy9⟩) ?_
                      case hy9 => intro w; go_simp; first | done | (with_reducible rfl)
                      simp only [Act.put, List.getElem_toArray, List.getElem_cons_zero, List.getElem_cons_succ, List.setIfInBounds_toArray, List.set_cons_zero, List.set_cons_succ]
                      refine wpAny_take (i := 10) (v := ?_) rfl (by kernel_rfl) (by kernel_rfl) (by kernel_rfl) (fun _ _ _ h => h) (Or.inl ⟨by rfl, ?hy10⟩) ?_
                      case hy10 => intro w; go_simp; first | done | (with_reducible rfl)
                      simp only [Act.put, List.getElem_toArray, List.getElem_cons_zero, List.getElem_cons_succ, List.setIfInBounds_toArray, List.set_cons_zero, List.set_cons_succ]
                      refine wpAny_ready (rs := [7, 11]) (by kernel_rfl) (by simp) ?_
                      refine AllReady.cons rfl (fun K hK => ?_) (AllReady.cons rfl (fun K hK => ?_) AllReady.nil)
                      · rw [if_pos (by rfl)]
                        refine wp_load_mid 26 (.tmp 77) rfl g (mc * 32) rfl (idc xe) _ (HRTe.out.1) Yba.underlying26 rfl s1e ?_
                        refine hK _ _ ?_
                        clear hK K
                        simp only [Act.put, List.getElem_toArray, List.getElem_cons_zero, List.getElem_cons_succ, List.setIfInBounds_toArray, List.set_cons_zero, List.set_cons_succ]
                        refine wpAny_ready (rs := [11]) (by kernel_rfl) (by simp) ?_
                        refine AllReady.cons rfl (fun K hK => ?_) AllReady.nil
                        rw [if_pos (by rfl)]
                        refine wp_load_mid 26 (.tmp 81) rfl g (mb * 32) rfl (idc ye) _ (HRTe.out.2.1) Yba.underlying26 rfl s0e ?_
                        refine hK _ _ ?_
                        clear hK K
                        simp only [Act.put, List.getElem_toArray, List.getElem_cons_zero, List.getElem_cons_succ, List.setIfInBounds_toArray, List.set_cons_zero, List.set_cons_succ]
                        refine wpAny_take (i := 12) (v := ?_) rfl (by kernel_rfl) (by kernel_rfl) (by kernel_rfl) (fun _ _ _ h => h) (Or.inl ⟨by rfl, ?hy12⟩) ?_
                        case hy12 => intro w; go_simp; first | done | (with_reducible rfl)
                        simp only [Act.put, List.getElem_toArray, List.getElem_cons_zero, List.getElem_cons_succ, List.setIfInBounds_toArray, List.set_cons_zero, List.set_cons_succ]
                        refine wpAny_ready (rs := [13]) (by kernel_rfl) (by simp) ?_
                        refine AllReady.cons rfl (fun K hK => ?_) AllReady.nil
                        rw [if_pos (by rfl)]
                        refine wp_store_mid 26 (.tmp 83) (.tmp 78) rfl g (mb * 32) (idc xe).toArray rfl rfl (by rw [List.size_toArray, l1e]; exact HRTe.out.2.2.1) (by rw [List.size_toArray]; exact s1e) (by simpa using idc_one xe) ?_
                        refine hK _ _ ?_
                        clear hK K
                        simp only [Act.put, List.getElem_toArray, List.getElem_cons_zero, List.getElem_cons_succ, List.setIfInBounds_toArray, List.set_cons_zero, List.set_cons_succ]
                        refine wpAny_take (i := 14) (v := ?_) rfl (by kernel_rfl) (by kernel_rfl) (by kernel_rfl) (fun _ _ _ h => h) (Or.inl ⟨by rfl, ?hy14⟩) ?_
                        case hy14 => intro w; go_simp; first | done | (with_reducible rfl)
                        simp only [Act.put, List.getElem_toArray, List.getElem_cons_zero, List.getElem_cons_succ, List.setIfInBounds_toArray, List.set_cons_zero, List.set_cons_succ]
                        refine wpAny_ready (rs := [15]) (by kernel_rfl) (by simp) ?_
                        refine AllReady.cons rfl (fun K hK => ?_) AllReady.nil
                        rw [if_pos (by rfl)]
                        refine wp_store_mid 26 (.tmp 84) (.tmp 82) rfl g (mc * 32) (idc ye).toArray rfl rfl (by rw [List.size_toArray, l0e]; exact HRTe.out.2.2.2) (by rw [List.size_toArray]; exact s0e) (by simpa using idc_one ye) ?_
                        refine hK _ _ ?_
                        clear hK K
                        simp only [Act.put, List.getElem_toArray, List.getElem_cons_zero, List.getElem_cons_succ, List.setIfInBounds_toArray, List.set_cons_zero, List.set_cons_succ]
                        refine wpAny_done (by kernel_rfl) ?_ _
                        go_wp2
                        go_meet
                        exact ⟨HSWe.out, by rw [sc_size, sc_size]; exact Nat.le_refl _⟩
                      · rw [if_pos (by rfl)]
                        refine wp_load_mid 26 (.tmp 81) rfl g (mb * 32) rfl (idc ye) _ (HRTe.out.2.1) Yba.underlying26 rfl s0e ?_
                        refine hK _ _ ?_
                        clear hK K
                        simp only [Act.put, List.getElem_toArray, List.getElem_cons_zero, List.getElem_cons_succ, List.setIfInBounds_toArray, List.set_cons_zero, List.set_cons_succ]
                        refine wpAny_ready (rs := [7]) (by kernel_rfl) (by simp) ?_
                        refine AllReady.cons rfl (fun K hK => ?_) AllReady.nil
                        rw [if_pos (by rfl)]
                        refine wp_load_mid 26 (.tmp 77) rfl g (mc * 32) rfl (idc xe) _ (HRTe.out.1) Yba.underlying26 rfl s1e ?_
                        refine hK _ _ ?_
                        clear hK K
                        simp only [Act.put, List.getElem_toArray, List.getElem_cons_zero, List.getElem_cons_succ, List.setIfInBounds_toArray, List.set_cons_zero, List.set_cons_succ]
                        refine wpAny_take (i := 12) (v := ?_) rfl (by kernel_rfl) (by kernel_rfl) (by kernel_rfl) (fun _ _ _ h => h) (Or.inl ⟨by rfl, ?hy12⟩) ?_
                        case hy12 => intro w; go_simp; first | done | (with_reducible rfl)
                        simp only [Act.put, List.getElem_toArray, List.getElem_cons_zero, List.getElem_cons_succ, List.setIfInBounds_toArray, List.set_cons_zero, List.set_cons_succ]
                        refine wpAny_ready (rs := [13]) (by kernel_rfl) (by simp) ?_
                        refine AllReady.cons rfl (fun K hK => ?_) AllReady.nil
                        rw [if_pos (by rfl)]
                        refine wp_store_mid 26 (.tmp 83) (.tmp 78) rfl g (mb * 32) (idc xe).toArray rfl rfl (by rw [List.size_toArray, l1e]; exact HRTe.out.2.2.1) (by rw [List.size_toArray]; exact s1e) (by simpa using idc_one xe) ?_
                        refine hK _ _ ?_
                        clear hK K
                        simp only [Act.put, List.getElem_toArray, List.getElem_cons_zero, List.getElem_cons_succ, List.setIfInBounds_toArray, List.set_cons_zero, List.set_cons_succ]
                        refine wpAny_take (i := 14) (v := ?_) rfl (by kernel_rfl) (by kernel_rfl) (by kernel_rfl) (fun _ _ _ h => h) (Or.inl ⟨by rfl, ?hy14⟩) ?_
                        case hy14 => intro w; go_simp; first | done | (with_reducible rfl)
                        simp only [Act.put, List.getElem_toArray, List.getElem_cons_zero, List.getElem_cons_succ, List.setIfInBounds_toArray, List.set_cons_zero, List.set_cons_succ]
                        refine wpAny_ready (rs := [15]) (by kernel_rfl) (by simp) ?_
                        refine AllReady.cons rfl (fun K hK => ?_) AllReady.nil
                        rw [if_pos (by rfl)]
                        refine wp_store_mid 26 (.tmp 84) (.tmp 82) rfl g (mc * 32) (idc ye).toArray rfl rfl (by rw [List.size_toArray, l0e]; exact HRTe.out.2.2.2) (by rw [List.size_toArray]; exact s0e) (by simpa using idc_one ye) ?_
                        refine hK _ _ ?_
                        clear hK K
                        simp only [Act.put, List.getElem_toArray, List.getElem_cons_zero, List.getElem_cons_succ, List.setIfInBounds_toArray, List.set_cons_zero, List.set_cons_succ]
                        refine wpAny_done (by kernel_rfl) ?_ _
                        go_wp2
                        go_meet
                        exact ⟨HSWe.out, by rw [sc_size, sc_size]; exact Nat.le_refl _⟩
                    case rest =>
                      have HSe := hide hcut.1
                      have hge : g < wc.heap.size := by have := hcut.2; have := hgc; omega
                      skip
                      clear hcut HSWe HRTe
                      go_wp2
                      go_roundw
                      case rel => exact ⟨mb + 1, j', Sort.swp dk mb mc, by omega, by omega, by omega, by go_num, by go_num, by rw [size_swp']; exact hdk, HSe.out, HF.out⟩
                      case measure => simp [intOf] <;> omega
end Go.Proofs.Ybulkcgfi
