import Derived.Test.YbulkcgfiS12
namespace Go.Proofs.Ybulkcgfi
open Go.RowKit
set_option linter.unusedVariables false
set_option linter.unusedSimpArgs false
set_option maxRecDepth 100000
theorem pp_step (a i j : Nat) (d : Array ID) {i2 j2 : Nat} (hi : i2 = Sort.scanUp (fun x => Sort.ltStr x d[a]!) d j i) (hj : j2 = Sort.scanDown (fun x => !Sort.ltStr x d[a]!) d i2 j) (h1 : i ≤ i2) (h2 : j2 ≤ j) :
    Sort.partLoop Sort.ltStr a i j d = if i2 > j2 then (j2, d) else Sort.partLoop Sort.ltStr a (i2 + 1) (j2 - 1) (Sort.swp d i2 j2) := by
  rw [Sort.partLoop]
  rw [← hi, ← hj]
  by_cases h : i2 > j2
  · rw [if_pos h, if_pos h]
  · rw [if_neg h, if_neg h, dif_pos (by omega)]
theorem pt_eq (d d1 : Array ID) (a b pv a' b' : Nat) (ha : a' = a + 1) (hb : b' = b - 1) (hd : d1 = Sort.swp d a pv) {i2 j2 : Nat} (hi : i2 = Sort.scanUp (fun x => Sort.ltStr x d1[a]!) d1 b' a') (hj : j2 = Sort.scanDown (fun x => !Sort.ltStr x d1[a]!) d1 i2 b') :
    Sort.partition Sort.ltStr d a b pv = if i2 > j2 then (j2, true, Sort.swp d1 j2 a) else ((Sort.partLoop Sort.ltStr a (i2 + 1) (j2 - 1) (Sort.swp d1 i2 j2)).1, false, Sort.swp (Sort.partLoop Sort.ltStr a (i2 + 1) (j2 - 1) (Sort.swp d1 i2 j2)).2 (Sort.partLoop Sort.ltStr a (i2 + 1) (j2 - 1) (Sort.swp d1 i2 j2)).1 a) := by
  unfold Sort.partition
  simp only
  rw [← ha, ← hb, ← hd, ← hi, ← hj]
set_option maxHeartbeats 32000000 in
theorem part_any (g cap a b pv : Nat) (d : Array ID) (w : World) (h0 : SR w g d w) (hg : g < w.heap.size) (hap : a ≤ pv) (hpb : pv < b) (hb : b ≤ d.size) (hn : d.size ≤ 1024) :
    Calls Yba.prog 22 #[.slice (some ⟨g, 0, none⟩) d.size cap, .int .i64 a, .int .i64 b, .int .i64 pv, .func (.func 8) #[] #[]] w fun e w' => e = .returned (.tuple #[.int .i64 (Sort.partition Sort.ltStr d a b pv).1, .bool (Sort.partition Sort.ltStr d a b pv).2.1]) ∧ SR w g (Sort.partition Sort.ltStr d a b pv).2.2 w' := by
  have H0 := hide h0
  clear h0
  obtain ⟨a', ha'⟩ : ∃ a', a' = a + 1 := ⟨_, rfl⟩
  obtain ⟨b', hb'⟩ : ∃ b', b' = b - 1 := ⟨_, rfl⟩
  have m1 : IntKind.i64.wrap ((a : Int) + 1) = a' := by rw [wrap_in _ (by omega) (by omega)]; omega
  have m2 : IntKind.i64.wrap ((b : Int) - 1) = b' := by rw [wrap_in _ (by omega) (by omega)]; omega
  have HAB := hide (And.intro ha' hb')
  have ha1 : a < a' := by omega
  have ha2 : a' ≤ b := by omega
  have hb1 : b' < b := by omega
  clear ha' hb'
  go_enter Yba.func22, Yba.ntmps22
  have hSda := H0.out.below hg ((Below.refl _ _).drew)
  have HSWa := hSda.swap (i := a) (j := pv) (by omega) (by omega)
  have r1a := hSda.row pv (by omega)
  have r0a := hSda.row a (by omega)
  have o1a := hSda.ok pv (by omega)
  have o0a := hSda.ok a (by omega)
  have t0a := hSda.there (x := a) (by omega)
  have t1a := (hSda.store (i := a) (by omega) d[pv]! o1a).there (x := pv) (by rw [Array.size_setIfInBounds]; omega)
  obtain ⟨xa, hxa⟩ : ∃ x, x = d[pv]! := ⟨_, rfl⟩
  obtain ⟨ya, hya⟩ : ∃ y, y = d[a]! := ⟨_, rfl⟩
  rw [← hxa] at r1a o1a t1a
  rw [← hya] at r0a o0a
  rw [← hxa, ← hya] at HSWa
  have HSWa := hide HSWa
  have b1a : ((pv : Nat) : Int) < d.size := by omega
  have b0a : ((a : Nat) : Int) < d.size := by omega
  have b3a : pv < d.size := by omega
  have b2a : a < d.size := by omega
  have s1a : (Yba.prog.info? 26).map (·.size) = some (idc xa).length := by rw [idc_len, o1a]; exact info26
  have s0a : (Yba.prog.info? 26).map (·.size) = some (idc ya).length := by rw [idc_len, o0a]; exact info26
  have l1a : (idc xa).length = 32 := by rw [idc_len, o1a]
  have l0a : (idc ya).length = 32 := by rw [idc_len, o0a]
  have HRTa := hide (And.intro r1a (And.intro r0a (And.intro t0a t1a)))
  clear hxa hya r1a r0a t0a t1a hSda
  go_upto_region 1 with fail
  go_cut [] (fun wc => SR w g (Sort.swp d a pv) wc ∧ w.heap.size ≤ wc.heap.size)
  case first =>
    go_wp2_with fail
    refine wp_region_any (by kernel_rfl) ?_
    change wpAny _ _ _ _ _ _ _ (World.drew _)
    refine wpAny_take (i := 0) (v := ?_) rfl (by kernel_rfl) (by kernel_rfl) (by kernel_rfl) (fun _ _ _ h => h) (Or.inl ⟨by rfl, ?hy0⟩) ?_
    case hy0 => intro w; go_simp; first | done | (with_reducible rfl)
    simp only [Act.put, List.getElem_toArray, List.getElem_cons_zero, List.getElem_cons_succ, List.setIfInBounds_toArray, List.set_cons_zero, List.set_cons_succ]
    refine wpAny_take (i := 1) (v := ?_) rfl (by kernel_rfl) (by kernel_rfl) (by kernel_rfl) (fun _ _ _ h => h) (Or.inl ⟨by rfl, ?hy1⟩) ?_
    case hy1 => intro w; go_simp; first | done | (with_reducible rfl)
    simp only [Act.put, List.getElem_toArray, List.getElem_cons_zero, List.getElem_cons_succ, List.setIfInBounds_toArray, List.set_cons_zero, List.set_cons_succ]
    refine wpAny_take (i := 2) (v := ?_) rfl (by kernel_rfl) (by kernel_rfl) (by kernel_rfl) (fun _ _ _ h => h) (Or.inl ⟨by rfl, ?hy2⟩) ?_
    case hy2 => intro w; go_simp; first | done | (with_reducible rfl)
    simp only [Act.put, List.getElem_toArray, List.getElem_cons_zero, List.getElem_cons_succ, List.setIfInBounds_toArray, List.set_cons_zero, List.set_cons_succ]
    refine wpAny_take (i := 3) (v := ?_) rfl (by kernel_rfl) (by kernel_rfl) (by kernel_rfl) (fun _ _ _ h => h) (Or.inl ⟨by rfl, ?hy3⟩) ?_
    case hy3 => intro w; go_simp; first | done | (with_reducible rfl)
    simp only [Act.put, List.getElem_toArray, List.getElem_cons_zero, List.getElem_cons_succ, List.setIfInBounds_toArray, List.set_cons_zero, List.set_cons_succ]
    refine wpAny_take (i := 4) (v := ?_) rfl (by kernel_rfl) (by kernel_rfl) (by kernel_rfl) (fun _ _ _ h => h) (Or.inl ⟨by rfl, ?hy4⟩) ?_
    case hy4 => intro w; go_simp; first | done | (with_reducible rfl)
    simp only [Act.put, List.getElem_toArray, List.getElem_cons_zero, List.getElem_cons_succ, List.setIfInBounds_toArray, List.set_cons_zero, List.set_cons_succ]
    refine wpAny_take (i := 5) (v := ?_) rfl (by kernel_rfl) (by kernel_rfl) (by kernel_rfl) (fun _ _ _ h => h) (Or.inl ⟨by rfl, ?hy5⟩) ?_
    case hy5 => intro w; go_simp; first | done | (with_reducible rfl)
    simp only [Act.put, List.getElem_toArray, List.getElem_cons_zero, List.getElem_cons_succ, List.setIfInBounds_toArray, List.set_cons_zero, List.set_cons_succ]
    refine wpAny_take (i := 6) (v := ?_) rfl (by kernel_rfl) (by kernel_rfl) (by kernel_rfl) (fun _ _ _ h => h) (Or.inl ⟨by rfl, ?hy6⟩) ?_
    case hy6 => intro w; go_simp; first | done | (with_reducible rfl)
    simp only [Act.put, List.getElem_toArray, List.getElem_cons_zero, List.getElem_cons_succ, List.setIfInBounds_toArray, List.set_cons_zero, List.set_cons_succ]
    refine wpAny_take (i := 8) (v := ?_) rfl (by kernel_rfl) (by kernel_rfl) (by kernel_rfl) (fun _ _ _ h => h) (Or.inl ⟨by rfl, ?hy8⟩) ?_
    case hy8 => intro w; go_simp; first | done | (with_reducible rfl)
    simp only [Act.put, List.getElem_toArray, List.getElem_cons_zero, List.getElem_cons_succ, List.setIfInBounds_toArray, List.set_cons_zero, List.set_cons_succ]
    refine wpAny_take (i := 9) (v := ?_) rfl (by kernel_rfl) (by kernel_rfl) (by kernel_rfl) (fun _ _ _ h => h) (Or.inl ⟨by rfl, ?hy9⟩) ?_
    case hy9 => intro w; go_simp; first | done | (with_reducible rfl)
    simp only [Act.put, List.getElem_toArray, List.getElem_cons_zero, List.getElem_cons_succ, List.setIfInBounds_toArray, List.set_cons_zero, List.set_cons_succ]
    refine wpAny_take (i := 10) (v := ?_) rfl (by kernel_rfl) (by kernel_rfl) (by kernel_rfl) (fun _ _ _ h => h) (Or.inl ⟨by rfl, ?hy10⟩) ?_
    case hy10 => intro w; go_simp; first | done | (with_reducible rfl)
    simp only [Act.put, List.getElem_toArray, List.getElem_cons_zero, List.getElem_cons_succ, List.setIfInBounds_toArray, List.set_cons_zero, List.set_cons_succ]
    refine wpAny_ready (rs := [7, 11]) (by kernel_rfl) (by simp) ?_
    refine AllReady.cons rfl (fun K hK => ?_) (AllReady.cons rfl (fun K hK => ?_) AllReady.nil)
    · rw [if_pos (by rfl)]
      refine wp_load_mid 26 (.tmp 20) rfl g (pv * 32) rfl (idc xa) _ (HRTa.out.1) Yba.underlying26 rfl s1a ?_
      refine hK _ _ ?_
      clear hK K
      simp only [Act.put, List.getElem_toArray, List.getElem_cons_zero, List.getElem_cons_succ, List.setIfInBounds_toArray, List.set_cons_zero, List.set_cons_succ]
      refine wpAny_ready (rs := [11]) (by kernel_rfl) (by simp) ?_
      refine AllReady.cons rfl (fun K hK => ?_) AllReady.nil
      rw [if_pos (by rfl)]
      refine wp_load_mid 26 (.tmp 24) rfl g (a * 32) rfl (idc ya) _ (HRTa.out.2.1) Yba.underlying26 rfl s0a ?_
      refine hK _ _ ?_
      clear hK K
      simp only [Act.put, List.getElem_toArray, List.getElem_cons_zero, List.getElem_cons_succ, List.setIfInBounds_toArray, List.set_cons_zero, List.set_cons_succ]
      refine wpAny_take (i := 12) (v := ?_) rfl (by kernel_rfl) (by kernel_rfl) (by kernel_rfl) (fun _ _ _ h => h) (Or.inl ⟨by rfl, ?hy12⟩) ?_
      case hy12 => intro w; go_simp; first | done | (with_reducible rfl)
      simp only [Act.put, List.getElem_toArray, List.getElem_cons_zero, List.getElem_cons_succ, List.setIfInBounds_toArray, List.set_cons_zero, List.set_cons_succ]
      refine wpAny_ready (rs := [13]) (by kernel_rfl) (by simp) ?_
      refine AllReady.cons rfl (fun K hK => ?_) AllReady.nil
      rw [if_pos (by rfl)]
      refine wp_store_mid 26 (.tmp 26) (.tmp 21) rfl g (a * 32) (idc xa).toArray rfl rfl (by rw [List.size_toArray, l1a]; exact HRTa.out.2.2.1) (by rw [List.size_toArray]; exact s1a) (by simpa using idc_one xa) ?_
      refine hK _ _ ?_
      clear hK K
      simp only [Act.put, List.getElem_toArray, List.getElem_cons_zero, List.getElem_cons_succ, List.setIfInBounds_toArray, List.set_cons_zero, List.set_cons_succ]
      refine wpAny_take (i := 14) (v := ?_) rfl (by kernel_rfl) (by kernel_rfl) (by kernel_rfl) (fun _ _ _ h => h) (Or.inl ⟨by rfl, ?hy14⟩) ?_
      case hy14 => intro w; go_simp; first | done | (with_reducible rfl)
      simp only [Act.put, List.getElem_toArray, List.getElem_cons_zero, List.getElem_cons_succ, List.setIfInBounds_toArray, List.set_cons_zero, List.set_cons_succ]
      refine wpAny_ready (rs := [15]) (by kernel_rfl) (by simp) ?_
      refine AllReady.cons rfl (fun K hK => ?_) AllReady.nil
      rw [if_pos (by rfl)]
      refine wp_store_mid 26 (.tmp 27) (.tmp 25) rfl g (pv * 32) (idc ya).toArray rfl rfl (by rw [List.size_toArray, l0a]; exact HRTa.out.2.2.2) (by rw [List.size_toArray]; exact s0a) (by simpa using idc_one ya) ?_
      refine hK _ _ ?_
      clear hK K
      simp only [Act.put, List.getElem_toArray, List.getElem_cons_zero, List.getElem_cons_succ, List.setIfInBounds_toArray, List.set_cons_zero, List.set_cons_succ]
      refine wpAny_done (by kernel_rfl) ?_ _
      go_wp2
      go_meet
      exact ⟨HSWa.out, by rw [sc_size, sc_size]; exact Nat.le_refl _⟩
    · rw [if_pos (by rfl)]
      refine wp_load_mid 26 (.tmp 24) rfl g (a * 32) rfl (idc ya) _ (HRTa.out.2.1) Yba.underlying26 rfl s0a ?_
      refine hK _ _ ?_
      clear hK K
      simp only [Act.put, List.getElem_toArray, List.getElem_cons_zero, List.getElem_cons_succ, List.setIfInBounds_toArray, List.set_cons_zero, List.set_cons_succ]
      refine wpAny_ready (rs := [7]) (by kernel_rfl) (by simp) ?_
      refine AllReady.cons rfl (fun K hK => ?_) AllReady.nil
      rw [if_pos (by rfl)]
      refine wp_load_mid 26 (.tmp 20) rfl g (pv * 32) rfl (idc xa) _ (HRTa.out.1) Yba.underlying26 rfl s1a ?_
      refine hK _ _ ?_
      clear hK K
      simp only [Act.put, List.getElem_toArray, List.getElem_cons_zero, List.getElem_cons_succ, List.setIfInBounds_toArray, List.set_cons_zero, List.set_cons_succ]
      refine wpAny_take (i := 12) (v := ?_) rfl (by kernel_rfl) (by kernel_rfl) (by kernel_rfl) (fun _ _ _ h => h) (Or.inl ⟨by rfl, ?hy12⟩) ?_
      case hy12 => intro w; go_simp; first | done | (with_reducible rfl)
      simp only [Act.put, List.getElem_toArray, List.getElem_cons_zero, List.getElem_cons_succ, List.setIfInBounds_toArray, List.set_cons_zero, List.set_cons_succ]
      refine wpAny_ready (rs := [13]) (by kernel_rfl) (by simp) ?_
      refine AllReady.cons rfl (fun K hK => ?_) AllReady.nil
      rw [if_pos (by rfl)]
      refine wp_store_mid 26 (.tmp 26) (.tmp 21) rfl g (a * 32) (idc xa).toArray rfl rfl (by rw [List.size_toArray, l1a]; exact HRTa.out.2.2.1) (by rw [List.size_toArray]; exact s1a) (by simpa using idc_one xa) ?_
      refine hK _ _ ?_
      clear hK K
      simp only [Act.put, List.getElem_toArray, List.getElem_cons_zero, List.getElem_cons_succ, List.setIfInBounds_toArray, List.set_cons_zero, List.set_cons_succ]
      refine wpAny_take (i := 14) (v := ?_) rfl (by kernel_rfl) (by kernel_rfl) (by kernel_rfl) (fun _ _ _ h => h) (Or.inl ⟨by rfl, ?hy14⟩) ?_
      case hy14 => intro w; go_simp; first | done | (with_reducible rfl)
      simp only [Act.put, List.getElem_toArray, List.getElem_cons_zero, List.getElem_cons_succ, List.setIfInBounds_toArray, List.set_cons_zero, List.set_cons_succ]
      refine wpAny_ready (rs := [15]) (by kernel_rfl) (by simp) ?_
      refine AllReady.cons rfl (fun K hK => ?_) AllReady.nil
      rw [if_pos (by rfl)]
      refine wp_store_mid 26 (.tmp 27) (.tmp 25) rfl g (pv * 32) (idc ya).toArray rfl rfl (by rw [List.size_toArray, l0a]; exact HRTa.out.2.2.2) (by rw [List.size_toArray]; exact s0a) (by simpa using idc_one ya) ?_
      refine hK _ _ ?_
      clear hK K
      simp only [Act.put, List.getElem_toArray, List.getElem_cons_zero, List.getElem_cons_succ, List.setIfInBounds_toArray, List.set_cons_zero, List.set_cons_succ]
      refine wpAny_done (by kernel_rfl) ?_ _
      go_wp2
      go_meet
      exact ⟨HSWa.out, by rw [sc_size, sc_size]; exact Nat.le_refl _⟩
  case rest =>
    have HSa := hide hcut.1
    have hga : g < wc.heap.size := by have := hcut.2; have := hg; omega
    skip
    clear hcut HSWa HRTa
    obtain ⟨d1, hd1⟩ : ∃ d1, d1 = Sort.swp d a pv := ⟨_, rfl⟩
    rw [← hd1] at HSa
    have hdk1 : d1.size = d.size := by rw [hd1]; exact size_swp' _ _ _
    have HD := hide hd1
    clear hd1
    go_wp2_with fail
    go_loopw [12] (fun v wr => ∃ m : Nat, a' ≤ m ∧ m ≤ 1025 ∧ (m ≤ a' ∨ m ≤ b' + 1) ∧ v = .int .i64 m ∧ SR w g d1 wr ∧ Sort.scanUp (fun x => Sort.ltStr x d1[a]!) d1 b' m = Sort.scanUp (fun x => Sort.ltStr x d1[a]!) d1 b' a') (fun v _ => ((b' : Int) + 1 - intOf v).toNat)
    case atStart => exact ⟨a', Nat.le_refl _, by omega, Or.inl (Nat.le_refl _), rfl, HSa.out, rfl⟩
    case round =>
      obtain ⟨mb, hm1b, hm2b, hm3b, rfl, hSb, hEb⟩ := hrel
      have hgqb : g < wr.heap.size := by have := hSb.fw.size; omega
      have HQb := hide (And.intro hSb hEb)
      clear hSb hEb
      obtain ⟨Wb, rfl⟩ : ∃ W, W = wr := ⟨_, rfl⟩
      go_upto_region 3 with fail
      go_cut [47] (fun s wc => s = .bool (decide (mb ≤ b') && (Sort.ltStr d1[mb]! d1[a]!)) ∧ Below Wb.heap.size Wb wc)
      case first =>
        by_cases hmj : mb ≤ b'
        · have hmi : ((mb : Nat) : Int) ≤ b' := by omega
          have r1b := HQb.out.1.row mb (by omega)
          have r0b := HQb.out.1.row a (by omega)
          have o1b := HQb.out.1.ok mb (by omega)
          have o0b := HQb.out.1.ok a (by omega)
          obtain ⟨xb, hxb⟩ : ∃ x, x = d1[mb]! := ⟨_, rfl⟩
          obtain ⟨yb, hyb⟩ : ∃ y, y = d1[a]! := ⟨_, rfl⟩
          rw [← hxb] at r1b o1b
          rw [← hyb] at r0b o0b
          have b1b : ((mb : Nat) : Int) < d.size := by omega
          have b0b : ((a : Nat) : Int) < d.size := by omega
          have b3b : mb < d.size := by omega
          have b2b : a < d.size := by omega
          have s1b : (Yba.prog.info? 26).map (·.size) = some (idc xb).length := by rw [idc_len, o1b]; exact info26
          have s0b : (Yba.prog.info? 26).map (·.size) = some (idc yb).length := by rw [idc_len, o0b]; exact info26
          have HXb := hide (And.intro hxb hyb)
          have HRb := hide (And.intro r1b r0b)
          clear hxb hyb r1b r0b
          go_wp2_with fail
          refine wp_region_held_drew (S := fun w' => w'.rangeAt g (mb * 32) (idc xb) ∧ w'.rangeAt g (a * 32) (idc yb)) (by kernel_rfl) (R2 HRb.out.1 HRb.out.2 hgqb ((Below.refl _ _).drew)) (fun hHeld => ?_)
          refine wpAnyH_take (i := 0) (v := ?_) rfl (by kernel_rfl) (by kernel_rfl) (by kernel_rfl) (fun _ _ _ h => h) (Or.inl ⟨by rfl, ?hy0⟩) hHeld ?_
          case hy0 => intro w hSw; go_simp; first | done | (with_reducible rfl)
          simp only [Act.put, List.getElem_toArray, List.getElem_cons_zero, List.getElem_cons_succ, List.setIfInBounds_toArray, List.set_cons_zero, List.set_cons_succ]
          refine wpAnyH_take (i := 1) (v := ?_) rfl (by kernel_rfl) (by kernel_rfl) (by kernel_rfl) (fun _ _ _ h => h) (Or.inl ⟨by rfl, ?hy1⟩) hHeld ?_
          case hy1 => intro w hSw; go_simp; first | done | (with_reducible rfl)
          simp only [Act.put, List.getElem_toArray, List.getElem_cons_zero, List.getElem_cons_succ, List.setIfInBounds_toArray, List.set_cons_zero, List.set_cons_succ]
          refine wpAnyH_take (i := 2) (v := ?_) rfl (by kernel_rfl) (by kernel_rfl) (by kernel_rfl) (fun _ _ _ h => h) (Or.inl ⟨by rfl, ?hy2⟩) hHeld ?_
          case hy2 => intro w hSw; go_simp; first | done | (with_reducible rfl)
          simp only [Act.put, List.getElem_toArray, List.getElem_cons_zero, List.getElem_cons_succ, List.setIfInBounds_toArray, List.set_cons_zero, List.set_cons_succ]
          refine wpAnyH_take (i := 3) (v := ?_) rfl (by kernel_rfl) (by kernel_rfl) (by kernel_rfl) (fun _ _ _ h => h) (Or.inl ⟨by rfl, ?hy3⟩) hHeld ?_
          case hy3 => intro w hSw; go_simp; first | done | (with_reducible rfl)
          simp only [Act.put, List.getElem_toArray, List.getElem_cons_zero, List.getElem_cons_succ, List.setIfInBounds_toArray, List.set_cons_zero, List.set_cons_succ]
          refine wpAnyH_take (i := 4) (v := ?_) rfl (by kernel_rfl) (by kernel_rfl) (by kernel_rfl) (fun _ _ _ h => h) (Or.inl ⟨by rfl, ?hy4⟩) hHeld ?_
          case hy4 => intro w hSw; go_simp; first | done | (with_reducible rfl)
          simp only [Act.put, List.getElem_toArray, List.getElem_cons_zero, List.getElem_cons_succ, List.setIfInBounds_toArray, List.set_cons_zero, List.set_cons_succ]
          refine wpAnyH_take (i := 5) (v := ?_) rfl (by kernel_rfl) (by kernel_rfl) (by kernel_rfl) (fun _ _ _ h => h) (Or.inl ⟨by rfl, ?hy5⟩) hHeld ?_
          case hy5 => intro w hSw; go_simp; first | done | (with_reducible rfl)
          simp only [Act.put, List.getElem_toArray, List.getElem_cons_zero, List.getElem_cons_succ, List.setIfInBounds_toArray, List.set_cons_zero, List.set_cons_succ]
          refine wpAnyH_take (i := 6) (v := ?_) rfl (by kernel_rfl) (by kernel_rfl) (by kernel_rfl) (fun _ _ _ h => h) (Or.inl ⟨by rfl, ?hy6⟩) hHeld ?_
          case hy6 => intro w hSw; go_simp; first | done | (with_reducible rfl)
          simp only [Act.put, List.getElem_toArray, List.getElem_cons_zero, List.getElem_cons_succ, List.setIfInBounds_toArray, List.set_cons_zero, List.set_cons_succ]
          refine wpAnyH_take (i := 7) (v := ?_) rfl (by kernel_rfl) (by kernel_rfl) (by kernel_rfl) (fun _ _ _ h => h) (Or.inl ⟨by rfl, ?hy7⟩) hHeld ?_
          case hy7 => intro w hSw; go_simp; first | done | (with_reducible rfl)
          simp only [Act.put, List.getElem_toArray, List.getElem_cons_zero, List.getElem_cons_succ, List.setIfInBounds_toArray, List.set_cons_zero, List.set_cons_succ]
          refine wpAnyH_take (i := 8) (v := _) rfl (by kernel_rfl) (by kernel_rfl) (by kernel_rfl) (fun _ _ _ h => h) (yieldsIf_load_mid (by rfl) 26 (.tmp 39) rfl g (mb * 32) rfl (idc xb) _ (fun _ h => h.1) Yba.underlying26 rfl s1b) hHeld ?_
          simp only [Act.put, List.getElem_toArray, List.getElem_cons_zero, List.getElem_cons_succ, List.setIfInBounds_toArray, List.set_cons_zero, List.set_cons_succ]
          refine wpAnyH_take (i := 9) (v := ?_) rfl (by kernel_rfl) (by kernel_rfl) (by kernel_rfl) (fun _ _ _ h => h) (Or.inl ⟨by rfl, ?hy9⟩) hHeld ?_
          case hy9 => intro w hSw; go_simp; first | done | (with_reducible rfl)
          simp only [Act.put, List.getElem_toArray, List.getElem_cons_zero, List.getElem_cons_succ, List.setIfInBounds_toArray, List.set_cons_zero, List.set_cons_succ]
          refine wpAnyH_take (i := 10) (v := ?_) rfl (by kernel_rfl) (by kernel_rfl) (by kernel_rfl) (fun _ _ _ h => h) (Or.inl ⟨by rfl, ?hy10⟩) hHeld ?_
          case hy10 => intro w hSw; go_simp; first | done | (with_reducible rfl)
          simp only [Act.put, List.getElem_toArray, List.getElem_cons_zero, List.getElem_cons_succ, List.setIfInBounds_toArray, List.set_cons_zero, List.set_cons_succ]
          refine wpAnyH_take (i := 11) (v := ?_) rfl (by kernel_rfl) (by kernel_rfl) (by kernel_rfl) (fun _ _ _ h => h) (Or.inl ⟨by rfl, ?hy11⟩) hHeld ?_
          case hy11 => intro w hSw; go_simp; first | done | (with_reducible rfl)
          simp only [Act.put, List.getElem_toArray, List.getElem_cons_zero, List.getElem_cons_succ, List.setIfInBounds_toArray, List.set_cons_zero, List.set_cons_succ]
          refine wpAnyH_take (i := 12) (v := _) rfl (by kernel_rfl) (by kernel_rfl) (by kernel_rfl) (fun _ _ _ h => h) (yieldsIf_load_mid (by rfl) 26 (.tmp 43) rfl g (a * 32) rfl (idc yb) _ (fun _ h => h.2) Yba.underlying26 rfl s0b) hHeld ?_
          simp only [Act.put, List.getElem_toArray, List.getElem_cons_zero, List.getElem_cons_succ, List.setIfInBounds_toArray, List.set_cons_zero, List.set_cons_succ]
          refine wpAnyH_ready (rs := [13]) (by kernel_rfl) (by simp) ?_
          refine AllReadyH.cons rfl (fun K hK => ?_) AllReadyH.nil
          rw [if_pos (by rfl)]
          go_simp
          refine (order_any xb yb _ o1b o0b).mono ?_
          rintro e w5 ⟨⟨cc, rfl, hcc⟩, hw5⟩; have HB5 := hide (un_drew hw5); have HC5 := hide hcc; clear hw5 hcc
          clear hHeld
          refine hK.out _ _ (R2 HRb.out.1 HRb.out.2 hgqb HB5.out) (fun hHeld => ?_)
          clear hK K
          refine wpAnyH_take (i := 14) (v := ?_) rfl (by kernel_rfl) (by kernel_rfl) (by kernel_rfl) (fun _ _ _ h => h) (Or.inl ⟨by rfl, ?hy14⟩) hHeld ?_
          case hy14 => intro w hSw; go_simp; first | done | (with_reducible rfl)
          simp only [Act.put, List.getElem_toArray, List.getElem_cons_zero, List.getElem_cons_succ, List.setIfInBounds_toArray, List.set_cons_zero, List.set_cons_succ]
          refine wpAnyH_take (i := 15) (v := ?_) rfl (by kernel_rfl) (by kernel_rfl) (by kernel_rfl) (fun _ _ _ h => h) (Or.inl ⟨by rfl, ?hy15⟩) hHeld ?_
          case hy15 => intro w hSw; go_simp; first | done | (with_reducible rfl)
          simp only [Act.put, List.getElem_toArray, List.getElem_cons_zero, List.getElem_cons_succ, List.setIfInBounds_toArray, List.set_cons_zero, List.set_cons_succ]
          refine wpAnyH_done (by kernel_rfl) ?_ _
          go_wp2
          go_meet
          have HL : Sort.ltStr xb yb = decide (cc < 0) := (decide_eq_decide.2 HC5.out).symm
          exact ⟨by rw [← HXb.out.1, ← HXb.out.2, HL, decide_eq_true hmj, Bool.true_and]; first | done | simp, HB5.out⟩
        · have hmi : ¬ ((mb : Nat) : Int) ≤ b' := by omega
          have hmd : decide (mb ≤ b') = false := decide_eq_false hmj
          go_wp2_with fail
          go_quiet (fail)
          go_wp2
          go_meet
          exact ⟨by rw [hmd, Bool.false_and], bdrewN⟩
      case rest =>
        obtain ⟨hs, hbc⟩ := hcut
        subst hs
        have HSb := hide (HQb.out.1.below hgqb hbc)
        have hgb : g < wc.heap.size := by have := hbc.size; have := hgqb; omega
        clear hbc
        generalize hbb : (decide (mb ≤ b') && (Sort.ltStr d1[mb]! d1[a]!)) = bb
        cases bb with
        | true =>
          have hmj : mb ≤ b' := of_decide_eq_true (Bool.and_eq_true_iff.1 hbb).1
          have HE2 : Hid (Sort.scanUp (fun x => Sort.ltStr x d1[a]!) d1 b' (mb + 1) = Sort.scanUp (fun x => Sort.ltStr x d1[a]!) d1 b' a') := ⟨by rw [← HQb.out.2, su_step _ _ _ mb, if_pos hbb]⟩
          have hw1 := wrap_in ((mb : Int) + 1) (by omega) (by omega)
          clear hbb
          go_wp2
          go_roundw
          case rel => exact ⟨mb + 1, by omega, by omega, by omega, by go_num, HSb.out, HE2.out⟩
          case measure => simp [intOf] <;> omega
        | false =>
          have Hb : Hid (mb = Sort.scanUp (fun x => Sort.ltStr x d1[a]!) d1 b' a') := ⟨by rw [← HQb.out.2, su_step _ _ _ mb, if_neg (by rw [hbb]; exact Bool.false_ne_true)]⟩
          clear hbb HQb hgqb
          go_wp2_with fail
          go_loopw [13] (fun v wr => ∃ m : Nat, m ≤ b' ∧ v = .int .i64 m ∧ SR w g d1 wr ∧ Sort.scanDown (fun x => !Sort.ltStr x d1[a]!) d1 mb m = Sort.scanDown (fun x => !Sort.ltStr x d1[a]!) d1 mb b') (fun v _ => (intOf v).toNat)
          case atStart => exact ⟨b', Nat.le_refl _, rfl, HSb.out, rfl⟩
          case round =>
            obtain ⟨mc, hm1c, rfl, hSc, hEc⟩ := hrel
            have hgqc : g < wr.heap.size := by have := hSc.fw.size; omega
            have HQc := hide (And.intro hSc hEc)
            clear hSc hEc
            obtain ⟨Wc, rfl⟩ : ∃ W, W = wr := ⟨_, rfl⟩
            go_upto_region 5 with fail
            go_cut [66] (fun s wc => s = .bool (decide (mb ≤ mc) && (!Sort.ltStr d1[mc]! d1[a]!)) ∧ Below Wc.heap.size Wc wc)
            case first =>
              by_cases hmj : mb ≤ mc
              · have hmi : ((mb : Nat) : Int) ≤ mc := by omega
                have r1c := HQc.out.1.row mc (by omega)
                have r0c := HQc.out.1.row a (by omega)
                have o1c := HQc.out.1.ok mc (by omega)
                have o0c := HQc.out.1.ok a (by omega)
                obtain ⟨xc, hxc⟩ : ∃ x, x = d1[mc]! := ⟨_, rfl⟩
                obtain ⟨yc, hyc⟩ : ∃ y, y = d1[a]! := ⟨_, rfl⟩
                rw [← hxc] at r1c o1c
                rw [← hyc] at r0c o0c
                have b1c : ((mc : Nat) : Int) < d.size := by omega
                have b0c : ((a : Nat) : Int) < d.size := by omega
                have b3c : mc < d.size := by omega
                have b2c : a < d.size := by omega
                have s1c : (Yba.prog.info? 26).map (·.size) = some (idc xc).length := by rw [idc_len, o1c]; exact info26
                have s0c : (Yba.prog.info? 26).map (·.size) = some (idc yc).length := by rw [idc_len, o0c]; exact info26
                have HXc := hide (And.intro hxc hyc)
                have HRc := hide (And.intro r1c r0c)
                clear hxc hyc r1c r0c
                go_wp2_with fail
                refine wp_region_held_drew (S := fun w' => w'.rangeAt g (mc * 32) (idc xc) ∧ w'.rangeAt g (a * 32) (idc yc)) (by kernel_rfl) (R2 HRc.out.1 HRc.out.2 hgqc ((Below.refl _ _).drew)) (fun hHeld => ?_)
                refine wpAnyH_take (i := 0) (v := ?_) rfl (by kernel_rfl) (by kernel_rfl) (by kernel_rfl) (fun _ _ _ h => h) (Or.inl ⟨by rfl, ?hy0⟩) hHeld ?_
                case hy0 => intro w hSw; go_simp; first | done | (with_reducible rfl)
                simp only [Act.put, List.getElem_toArray, List.getElem_cons_zero, List.getElem_cons_succ, List.setIfInBounds_toArray, List.set_cons_zero, List.set_cons_succ]
                refine wpAnyH_take (i := 1) (v := ?_) rfl (by kernel_rfl) (by kernel_rfl) (by kernel_rfl) (fun _ _ _ h => h) (Or.inl ⟨by rfl, ?hy1⟩) hHeld ?_
                case hy1 => intro w hSw; go_simp; first | done | (with_reducible rfl)
                simp only [Act.put, List.getElem_toArray, List.getElem_cons_zero, List.getElem_cons_succ, List.setIfInBounds_toArray, List.set_cons_zero, List.set_cons_succ]
                refine wpAnyH_take (i := 2) (v := ?_) rfl (by kernel_rfl) (by kernel_rfl) (by kernel_rfl) (fun _ _ _ h => h) (Or.inl ⟨by rfl, ?hy2⟩) hHeld ?_
                case hy2 => intro w hSw; go_simp; first | done | (with_reducible rfl)
                simp only [Act.put, List.getElem_toArray, List.getElem_cons_zero, List.getElem_cons_succ, List.setIfInBounds_toArray, List.set_cons_zero, List.set_cons_succ]
                refine wpAnyH_take (i := 3) (v := ?_) rfl (by kernel_rfl) (by kernel_rfl) (by kernel_rfl) (fun _ _ _ h => h) (Or.inl ⟨by rfl, ?hy3⟩) hHeld ?_
                case hy3 => intro w hSw; go_simp; first | done | (with_reducible rfl)
                simp only [Act.put, List.getElem_toArray, List.getElem_cons_zero, List.getElem_cons_succ, List.setIfInBounds_toArray, List.set_cons_zero, List.set_cons_succ]
                refine wpAnyH_take (i := 4) (v := ?_) rfl (by kernel_rfl) (by kernel_rfl) (by kernel_rfl) (fun _ _ _ h => h) (Or.inl ⟨by rfl, ?hy4⟩) hHeld ?_
                case hy4 => intro w hSw; go_simp; first | done | (with_reducible rfl)
                simp only [Act.put, List.getElem_toArray, List.getElem_cons_zero, List.getElem_cons_succ, List.setIfInBounds_toArray, List.set_cons_zero, List.set_cons_succ]
                refine wpAnyH_take (i := 5) (v := ?_) rfl (by kernel_rfl) (by kernel_rfl) (by kernel_rfl) (fun _ _ _ h => h) (Or.inl ⟨by rfl, ?hy5⟩) hHeld ?_
                case hy5 => intro w hSw; go_simp; first | done | (with_reducible rfl)
                simp only [Act.put, List.getElem_toArray, List.getElem_cons_zero, List.getElem_cons_succ, List.setIfInBounds_toArray, List.set_cons_zero, List.set_cons_succ]
                refine wpAnyH_take (i := 6) (v := ?_) rfl (by kernel_rfl) (by kernel_rfl) (by kernel_rfl) (fun _ _ _ h => h) (Or.inl ⟨by rfl, ?hy6⟩) hHeld ?_
                case hy6 => intro w hSw; go_simp; first | done | (with_reducible rfl)
                simp only [Act.put, List.getElem_toArray, List.getElem_cons_zero, List.getElem_cons_succ, List.setIfInBounds_toArray, List.set_cons_zero, List.set_cons_succ]
                refine wpAnyH_take (i := 7) (v := ?_) rfl (by kernel_rfl) (by kernel_rfl) (by kernel_rfl) (fun _ _ _ h => h) (Or.inl ⟨by rfl, ?hy7⟩) hHeld ?_
                case hy7 => intro w hSw; go_simp; first | done | (with_reducible rfl)
                simp only [Act.put, List.getElem_toArray, List.getElem_cons_zero, List.getElem_cons_succ, List.setIfInBounds_toArray, List.set_cons_zero, List.set_cons_succ]
                refine wpAnyH_take (i := 8) (v := _) rfl (by kernel_rfl) (by kernel_rfl) (by kernel_rfl) (fun _ _ _ h => h) (yieldsIf_load_mid (by rfl) 26 (.tmp 57) rfl g (mc * 32) rfl (idc xc) _ (fun _ h => h.1) Yba.underlying26 rfl s1c) hHeld ?_
                simp only [Act.put, List.getElem_toArray, List.getElem_cons_zero, List.getElem_cons_succ, List.setIfInBounds_toArray, List.set_cons_zero, List.set_cons_succ]
                refine wpAnyH_take (i := 9) (v := ?_) rfl (by kernel_rfl) (by kernel_rfl) (by kernel_rfl) (fun _ _ _ h => h) (Or.inl ⟨by rfl, ?hy9⟩) hHeld ?_
                case hy9 => intro w hSw; go_simp; first | done | (with_reducible rfl)
                simp only [Act.put, List.getElem_toArray, List.getElem_cons_zero, List.getElem_cons_succ, List.setIfInBounds_toArray, List.set_cons_zero, List.set_cons_succ]
                refine wpAnyH_take (i := 10) (v := ?_) rfl (by kernel_rfl) (by kernel_rfl) (by kernel_rfl) (fun _ _ _ h => h) (Or.inl ⟨by rfl, ?hy10⟩) hHeld ?_
                case hy10 => intro w hSw; go_simp; first | done | (with_reducible rfl)
                simp only [Act.put, List.getElem_toArray, List.getElem_cons_zero, List.getElem_cons_succ, List.setIfInBounds_toArray, List.set_cons_zero, List.set_cons_succ]
                refine wpAnyH_take (i := 11) (v := ?_) rfl (by kernel_rfl) (by kernel_rfl) (by kernel_rfl) (fun _ _ _ h => h) (Or.inl ⟨by rfl, ?hy11⟩) hHeld ?_
                case hy11 => intro w hSw; go_simp; first | done | (with_reducible rfl)
                simp only [Act.put, List.getElem_toArray, List.getElem_cons_zero, List.getElem_cons_succ, List.setIfInBounds_toArray, List.set_cons_zero, List.set_cons_succ]
                refine wpAnyH_take (i := 12) (v := _) rfl (by kernel_rfl) (by kernel_rfl) (by kernel_rfl) (fun _ _ _ h => h) (yieldsIf_load_mid (by rfl) 26 (.tmp 61) rfl g (a * 32) rfl (idc yc) _ (fun _ h => h.2) Yba.underlying26 rfl s0c) hHeld ?_
                simp only [Act.put, List.getElem_toArray, List.getElem_cons_zero, List.getElem_cons_succ, List.setIfInBounds_toArray, List.set_cons_zero, List.set_cons_succ]
                refine wpAnyH_ready (rs := [13]) (by kernel_rfl) (by simp) ?_
                refine AllReadyH.cons rfl (fun K hK => ?_) AllReadyH.nil
                rw [if_pos (by rfl)]
                go_simp
                refine (order_any xc yc _ o1c o0c).mono ?_
                rintro e w5 ⟨⟨cc, rfl, hcc⟩, hw5⟩; have HB5 := hide (un_drew hw5); have HC5 := hide hcc; clear hw5 hcc
                clear hHeld
                refine hK.out _ _ (R2 HRc.out.1 HRc.out.2 hgqc HB5.out) (fun hHeld => ?_)
                clear hK K
                refine wpAnyH_take (i := 14) (v := ?_) rfl (by kernel_rfl) (by kernel_rfl) (by kernel_rfl) (fun _ _ _ h => h) (Or.inl ⟨by rfl, ?hy14⟩) hHeld ?_
                case hy14 => intro w hSw; go_simp; first | done | (with_reducible rfl)
                simp only [Act.put, List.getElem_toArray, List.getElem_cons_zero, List.getElem_cons_succ, List.setIfInBounds_toArray, List.set_cons_zero, List.set_cons_succ]
                refine wpAnyH_take (i := 15) (v := ?_) rfl (by kernel_rfl) (by kernel_rfl) (by kernel_rfl) (fun _ _ _ h => h) (Or.inl ⟨by rfl, ?hy15⟩) hHeld ?_
                case hy15 => intro w hSw; go_simp; first | done | (with_reducible rfl)
                simp only [Act.put, List.getElem_toArray, List.getElem_cons_zero, List.getElem_cons_succ, List.setIfInBounds_toArray, List.set_cons_zero, List.set_cons_succ]
                refine wpAnyH_take (i := 16) (v := ?_) rfl (by kernel_rfl) (by kernel_rfl) (by kernel_rfl) (fun _ _ _ h => h) (Or.inl ⟨by rfl, ?hy16⟩) hHeld ?_
                case hy16 => intro w hSw; go_simp; first | done | (with_reducible rfl)
                simp only [Act.put, List.getElem_toArray, List.getElem_cons_zero, List.getElem_cons_succ, List.setIfInBounds_toArray, List.set_cons_zero, List.set_cons_succ]
                refine wpAnyH_done (by kernel_rfl) ?_ _
                go_wp2
                go_meet
                have HL : Sort.ltStr xc yc = decide (cc < 0) := (decide_eq_decide.2 HC5.out).symm
                exact ⟨by rw [← HXc.out.1, ← HXc.out.2, HL, decide_eq_true hmj, Bool.true_and]; first | done | simp, HB5.out⟩
              · have hmi : ¬ ((mb : Nat) : Int) ≤ mc := by omega
                have hmd : decide (mb ≤ mc) = false := decide_eq_false hmj
                go_wp2_with fail
                go_quiet (fail)
                go_wp2
                go_meet
                exact ⟨by rw [hmd, Bool.false_and], bdrewN⟩
            case rest =>
              obtain ⟨hs, hbc⟩ := hcut
              subst hs
              have HSc := hide (HQc.out.1.below hgqc hbc)
              have hgc : g < wc.heap.size := by have := hbc.size; have := hgqc; omega
              clear hbc
              generalize hbb : (decide (mb ≤ mc) && (!Sort.ltStr d1[mc]! d1[a]!)) = bb
              cases bb with
              | true =>
                have hmj : mb ≤ mc := of_decide_eq_true (Bool.and_eq_true_iff.1 hbb).1
                obtain ⟨m', hm'⟩ : ∃ m', m' = mc - 1 := ⟨_, rfl⟩
                have HE2 : Hid (Sort.scanDown (fun x => !Sort.ltStr x d1[a]!) d1 mb m' = Sort.scanDown (fun x => !Sort.ltStr x d1[a]!) d1 mb b') := ⟨by rw [← HQc.out.2, sw_step _ _ _ mc (by omega), if_pos hbb, hm']⟩
                have hw1 : IntKind.i64.wrap ((mc : Int) - 1) = m' := by rw [wrap_in _ (by omega) (by omega)]; omega
                have hm2 : m' < mc := by omega
                clear hbb hm'
                go_wp2
                go_roundw
                case rel => exact ⟨m', by omega, by go_num, HSc.out, HE2.out⟩
                case measure => simp [intOf] <;> omega
              | false =>
                have Hc : Hid (mc = Sort.scanDown (fun x => !Sort.ltStr x d1[a]!) d1 mb b') := ⟨by rw [← HQc.out.2, sw_step _ _ _ mc (by omega), if_neg (by rw [hbb]; exact Bool.false_ne_true)]⟩
                clear hbb HQc hgqc
                have HP := hide (pt_eq d d1 a b pv a' b' HAB.out.1 HAB.out.2 HD.out Hb.out Hc.out)
                clear Hb Hc
                by_cases hgt : mb > mc
                · have z : (mc : Int) < mb := by omega
                  have HF : Hid (Sort.partition Sort.ltStr d a b pv = (mc, true, Sort.swp d1 mc a)) := ⟨by rw [HP.out, if_pos hgt]⟩
                  obtain ⟨W1, rfl⟩ : ∃ W1, W1 = wc := ⟨_, rfl⟩
                  have hSde := HSc.out.below hgc ((Below.refl _ _).drew)
                  have HSWe := hSde.swap (i := mc) (j := a) (by omega) (by omega)
                  have r1e := hSde.row a (by omega)
                  have r0e := hSde.row mc (by omega)
                  have o1e := hSde.ok a (by omega)
                  have o0e := hSde.ok mc (by omega)
                  have t0e := hSde.there (x := mc) (by omega)
                  have t1e := (hSde.store (i := mc) (by omega) d1[a]! o1e).there (x := a) (by rw [Array.size_setIfInBounds]; omega)
                  obtain ⟨xe, hxe⟩ : ∃ x, x = d1[a]! := ⟨_, rfl⟩
                  obtain ⟨ye, hye⟩ : ∃ y, y = d1[mc]! := ⟨_, rfl⟩
                  rw [← hxe] at r1e o1e t1e
                  rw [← hye] at r0e o0e
                  rw [← hxe, ← hye] at HSWe
                  have HSWe := hide HSWe
                  have b1e : ((a : Nat) : Int) < d.size := by omega
                  have b0e : ((mc : Nat) : Int) < d.size := by omega
                  have b3e : a < d.size := by omega
                  have b2e : mc < d.size := by omega
                  have s1e : (Yba.prog.info? 26).map (·.size) = some (idc xe).length := by rw [idc_len, o1e]; exact info26
                  have s0e : (Yba.prog.info? 26).map (·.size) = some (idc ye).length := by rw [idc_len, o0e]; exact info26
                  have l1e : (idc xe).length = 32 := by rw [idc_len, o1e]
                  have l0e : (idc ye).length = 32 := by rw [idc_len, o0e]
                  have HRTe := hide (And.intro r1e (And.intro r0e (And.intro t0e t1e)))
                  clear hxe hye r1e r0e t0e t1e hSde
                  go_upto_region 8 with fail
                  go_cut [] (fun wc => SR w g (Sort.swp d1 mc a) wc ∧ W1.heap.size ≤ wc.heap.size)
                  case first =>
                    go_wp2_with fail
                    refine wp_region_any (by kernel_rfl) ?_
                    change wpAny _ _ _ _ _ _ _ (World.drew _)
                    refine wpAny_take (i := 0) (v := ?_) rfl (by kernel_rfl) (by kernel_rfl) (by kernel_rfl) (fun _ _ _ h => h) (Or.inl ⟨by rfl, ?hy0⟩) ?_
                    case hy0 => intro w; go_simp; first | done | (with_reducible rfl)
                    simp only [Act.put, List.getElem_toArray, List.getElem_cons_zero, List.getElem_cons_succ, List.setIfInBounds_toArray, List.set_cons_zero, List.set_cons_succ]
                    refine wpAny_take (i := 1) (v := ?_) rfl (by kernel_rfl) (by kernel_rfl) (by kernel_rfl) (fun _ _ _ h => h) (Or.inl ⟨by rfl, ?hy1⟩) ?_
                    case hy1 => intro w; go_simp; first | done | (with_reducible rfl)
                    simp only [Act.put, List.getElem_toArray, List.getElem_cons_zero, List.getElem_cons_succ, List.setIfInBounds_toArray, List.set_cons_zero, List.set_cons_succ]
                    refine wpAny_take (i := 2) (v := ?_) rfl (by kernel_rfl) (by kernel_rfl) (by kernel_rfl) (fun _ _ _ h => h) (Or.inl ⟨by rfl, ?hy2⟩) ?_
                    case hy2 => intro w; go_simp; first | done | (with_reducible rfl)
                    simp only [Act.put, List.getElem_toArray, List.getElem_cons_zero, List.getElem_cons_succ, List.setIfInBounds_toArray, List.set_cons_zero, List.set_cons_succ]
                    refine wpAny_take (i := 3) (v := ?_) rfl (by kernel_rfl) (by kernel_rfl) (by kernel_rfl) (fun _ _ _ h => h) (Or.inl ⟨by rfl, ?hy3⟩) ?_
                    case hy3 => intro w; go_simp; first | done | (with_reducible rfl)
                    simp only [Act.put, List.getElem_toArray, List.getElem_cons_zero, List.getElem_cons_succ, List.setIfInBounds_toArray, List.set_cons_zero, List.set_cons_succ]
                    refine wpAny_take (i := 4) (v := ?_) rfl (by kernel_rfl) (by kernel_rfl) (by kernel_rfl) (fun _ _ _ h => h) (Or.inl ⟨by rfl, ?hy4⟩) ?_
                    case hy4 => intro w; go_simp; first | done | (with_reducible rfl)
                    simp only [Act.put, List.getElem_toArray, List.getElem_cons_zero, List.getElem_cons_succ, List.setIfInBounds_toArray, List.set_cons_zero, List.set_cons_succ]
                    refine wpAny_take (i := 5) (v := ?_) rfl (by kernel_rfl) (by kernel_rfl) (by kernel_rfl) (fun _ _ _ h => h) (Or.inl ⟨by rfl, ?hy5⟩) ?_
                    case hy5 => intro w; go_simp; first | done | (with_reducible rfl)
                    simp only [Act.put, List.getElem_toArray, List.getElem_cons_zero, List.getElem_cons_succ, List.setIfInBounds_toArray, List.set_cons_zero, List.set_cons_succ]
                    refine wpAny_take (i := 6) (v := ?_) rfl (by kernel_rfl) (by kernel_rfl) (by kernel_rfl) (fun _ _ _ h => h) (Or.inl ⟨by rfl, ?hy6⟩) ?_
                    case hy6 => intro w; go_simp; first | done | (with_reducible rfl)
                    simp only [Act.put, List.getElem_toArray, List.getElem_cons_zero, List.getElem_cons_succ, List.setIfInBounds_toArray, List.set_cons_zero, List.set_cons_succ]
                    refine wpAny_take (i := 8) (v := ?_) rfl (by kernel_rfl) (by kernel_rfl) (by kernel_rfl) (fun _ _ _ h => h) (Or.inl ⟨by rfl, ?hy8⟩) ?_
                    case hy8 => intro w; go_simp; first | done | (with_reducible rfl)
                    simp only [Act.put, List.getElem_toArray, List.getElem_cons_zero, List.getElem_cons_succ, List.setIfInBounds_toArray, List.set_cons_zero, List.set_cons_succ]
                    refine wpAny_take (i := 9) (v := ?_) rfl (by kernel_rfl) (by kernel_rfl) (by kernel_rfl) (fun _ _ _ h => h) (Or.inl ⟨by rfl, ?hy9⟩) ?_
                    case hy9 => intro w; go_simp; first | done | (with_reducible rfl)
                    simp only [Act.put, List.getElem_toArray, List.getElem_cons_zero, List.getElem_cons_succ, List.setIfInBounds_toArray, List.set_cons_zero, List.set_cons_succ]
                    refine wpAny_take (i := 10) (v := ?_) rfl (by kernel_rfl) (by kernel_rfl) (by kernel_rfl) (fun _ _ _ h => h) (Or.inl ⟨by rfl, ?hy10⟩) ?_
                    case hy10 => intro w; go_simp; first | done | (with_reducible rfl)
                    simp only [Act.put, List.getElem_toArray, List.getElem_cons_zero, List.getElem_cons_succ, List.setIfInBounds_toArray, List.set_cons_zero, List.set_cons_succ]
                    refine wpAny_ready (rs := [7, 11]) (by kernel_rfl) (by simp) ?_
                    refine AllReady.cons rfl (fun K hK => ?_) (AllReady.cons rfl (fun K hK => ?_) AllReady.nil)
                    · rw [if_pos (by rfl)]
                      refine wp_load_mid 26 (.tmp 78) rfl g (a * 32) rfl (idc xe) _ (HRTe.out.1) Yba.underlying26 rfl s1e ?_
                      refine hK _ _ ?_
                      clear hK K
                      simp only [Act.put, List.getElem_toArray, List.getElem_cons_zero, List.getElem_cons_succ, List.setIfInBounds_toArray, List.set_cons_zero, List.set_cons_succ]
                      refine wpAny_ready (rs := [11]) (by kernel_rfl) (by simp) ?_
                      refine AllReady.cons rfl (fun K hK => ?_) AllReady.nil
                      rw [if_pos (by rfl)]
                      refine wp_load_mid 26 (.tmp 82) rfl g (mc * 32) rfl (idc ye) _ (HRTe.out.2.1) Yba.underlying26 rfl s0e ?_
                      refine hK _ _ ?_
                      clear hK K
                      simp only [Act.put, List.getElem_toArray, List.getElem_cons_zero, List.getElem_cons_succ, List.setIfInBounds_toArray, List.set_cons_zero, List.set_cons_succ]
                      refine wpAny_take (i := 12) (v := ?_) rfl (by kernel_rfl) (by kernel_rfl) (by kernel_rfl) (fun _ _ _ h => h) (Or.inl ⟨by rfl, ?hy12⟩) ?_
                      case hy12 => intro w; go_simp; first | done | (with_reducible rfl)
                      simp only [Act.put, List.getElem_toArray, List.getElem_cons_zero, List.getElem_cons_succ, List.setIfInBounds_toArray, List.set_cons_zero, List.set_cons_succ]
                      refine wpAny_ready (rs := [13]) (by kernel_rfl) (by simp) ?_
                      refine AllReady.cons rfl (fun K hK => ?_) AllReady.nil
                      rw [if_pos (by rfl)]
                      refine wp_store_mid 26 (.tmp 84) (.tmp 79) rfl g (mc * 32) (idc xe).toArray rfl rfl (by rw [List.size_toArray, l1e]; exact HRTe.out.2.2.1) (by rw [List.size_toArray]; exact s1e) (by simpa using idc_one xe) ?_
                      refine hK _ _ ?_
                      clear hK K
                      simp only [Act.put, List.getElem_toArray, List.getElem_cons_zero, List.getElem_cons_succ, List.setIfInBounds_toArray, List.set_cons_zero, List.set_cons_succ]
                      refine wpAny_take (i := 14) (v := ?_) rfl (by kernel_rfl) (by kernel_rfl) (by kernel_rfl) (fun _ _ _ h => h) (Or.inl ⟨by rfl, ?hy14⟩) ?_
                      case hy14 => intro w; go_simp; first | done | (with_reducible rfl)
                      simp only [Act.put, List.getElem_toArray, List.getElem_cons_zero, List.getElem_cons_succ, List.setIfInBounds_toArray, List.set_cons_zero, List.set_cons_succ]
                      refine wpAny_ready (rs := [15]) (by kernel_rfl) (by simp) ?_
                      refine AllReady.cons rfl (fun K hK => ?_) AllReady.nil
                      rw [if_pos (by rfl)]
                      refine wp_store_mid 26 (.tmp 85) (.tmp 83) rfl g (a * 32) (idc ye).toArray rfl rfl (by rw [List.size_toArray, l0e]; exact HRTe.out.2.2.2) (by rw [List.size_toArray]; exact s0e) (by simpa using idc_one ye) ?_
                      refine hK _ _ ?_
                      clear hK K
                      simp only [Act.put, List.getElem_toArray, List.getElem_cons_zero, List.getElem_cons_succ, List.setIfInBounds_toArray, List.set_cons_zero, List.set_cons_succ]
                      refine wpAny_done (by kernel_rfl) ?_ _
                      go_wp2
                      go_meet
                      exact ⟨HSWe.out, by rw [sc_size, sc_size]; exact Nat.le_refl _⟩
                    · rw [if_pos (by rfl)]
                      refine wp_load_mid 26 (.tmp 82) rfl g (mc * 32) rfl (idc ye) _ (HRTe.out.2.1) Yba.underlying26 rfl s0e ?_
                      refine hK _ _ ?_
                      clear hK K
                      simp only [Act.put, List.getElem_toArray, List.getElem_cons_zero, List.getElem_cons_succ, List.setIfInBounds_toArray, List.set_cons_zero, List.set_cons_succ]
                      refine wpAny_ready (rs := [7]) (by kernel_rfl) (by simp) ?_
                      refine AllReady.cons rfl (fun K hK => ?_) AllReady.nil
                      rw [if_pos (by rfl)]
                      refine wp_load_mid 26 (.tmp 78) rfl g (a * 32) rfl (idc xe) _ (HRTe.out.1) Yba.underlying26 rfl s1e ?_
                      refine hK _ _ ?_
                      clear hK K
                      simp only [Act.put, List.getElem_toArray, List.getElem_cons_zero, List.getElem_cons_succ, List.setIfInBounds_toArray, List.set_cons_zero, List.set_cons_succ]
                      refine wpAny_take (i := 12) (v := ?_) rfl (by kernel_rfl) (by kernel_rfl) (by kernel_rfl) (fun _ _ _ h => h) (Or.inl ⟨by rfl, ?hy12⟩) ?_
                      case hy12 => intro w; go_simp; first | done | (with_reducible rfl)
                      simp only [Act.put, List.getElem_toArray, List.getElem_cons_zero, List.getElem_cons_succ, List.setIfInBounds_toArray, List.set_cons_zero, List.set_cons_succ]
                      refine wpAny_ready (rs := [13]) (by kernel_rfl) (by simp) ?_
                      refine AllReady.cons rfl (fun K hK => ?_) AllReady.nil
                      rw [if_pos (by rfl)]
                      refine wp_store_mid 26 (.tmp 84) (.tmp 79) rfl g (mc * 32) (idc xe).toArray rfl rfl (by rw [List.size_toArray, l1e]; exact HRTe.out.2.2.1) (by rw [List.size_toArray]; exact s1e) (by simpa using idc_one xe) ?_
                      refine hK _ _ ?_
                      clear hK K
                      simp only [Act.put, List.getElem_toArray, List.getElem_cons_zero, List.getElem_cons_succ, List.setIfInBounds_toArray, List.set_cons_zero, List.set_cons_succ]
                      refine wpAny_take (i := 14) (v := ?_) rfl (by kernel_rfl) (by kernel_rfl) (by kernel_rfl) (fun _ _ _ h => h) (Or.inl ⟨by rfl, ?hy14⟩) ?_
                      case hy14 => intro w; go_simp; first | done | (with_reducible rfl)
                      simp only [Act.put, List.getElem_toArray, List.getElem_cons_zero, List.getElem_cons_succ, List.setIfInBounds_toArray, List.set_cons_zero, List.set_cons_succ]
                      refine wpAny_ready (rs := [15]) (by kernel_rfl) (by simp) ?_
                      refine AllReady.cons rfl (fun K hK => ?_) AllReady.nil
                      rw [if_pos (by rfl)]
                      refine wp_store_mid 26 (.tmp 85) (.tmp 83) rfl g (a * 32) (idc ye).toArray rfl rfl (by rw [List.size_toArray, l0e]; exact HRTe.out.2.2.2) (by rw [List.size_toArray]; exact s0e) (by simpa using idc_one ye) ?_
                      refine hK _ _ ?_
                      clear hK K
                      simp only [Act.put, List.getElem_toArray, List.getElem_cons_zero, List.getElem_cons_succ, List.setIfInBounds_toArray, List.set_cons_zero, List.set_cons_succ]
                      refine wpAny_done (by kernel_rfl) ?_ _
                      go_wp2
                      go_meet
                      exact ⟨HSWe.out, by rw [sc_size, sc_size]; exact Nat.le_refl _⟩
                  case rest =>
                    have HSe := hide hcut.1
                    have hge : g < wc.heap.size := by have := hcut.2; have := hgc; omega
                    skip
                    clear hcut HSWe HRTe
                    go_wp2
                    go_ret2
                    rw [HF.out]
                    exact ⟨rfl, HSe.out⟩
                · have z : ¬ (mc : Int) < mb := by omega
                  obtain ⟨j', hj'⟩ : ∃ j', j' = mc - 1 := ⟨_, rfl⟩
                  have z1 := wrap_in ((mb : Int) + 1) (by omega) (by omega)
                  have z2 : IntKind.i64.wrap ((mc : Int) - 1) = j' := by rw [wrap_in _ (by omega) (by omega)]; omega
                  obtain ⟨r, hr⟩ : ∃ r, r = Sort.partLoop Sort.ltStr a (mb + 1) j' (Sort.swp d1 mb mc) := ⟨_, rfl⟩
                  have HF : Hid (Sort.partition Sort.ltStr d a b pv = (r.1, false, Sort.swp r.2 r.1 a)) := ⟨by rw [HP.out, if_neg hgt, hr, hj']⟩
                  have HRR := hide hr
                  have hj2 : j' < mc := by omega
                  clear hj' HP hr
                  obtain ⟨W1, rfl⟩ : ∃ W1, W1 = wc := ⟨_, rfl⟩
                  have hSde := HSc.out.below hgc ((Below.refl _ _).drew)
                  have HSWe := hSde.swap (i := mb) (j := mc) (by omega) (by omega)
                  have r1e := hSde.row mc (by omega)
                  have r0e := hSde.row mb (by omega)
                  have o1e := hSde.ok mc (by omega)
                  have o0e := hSde.ok mb (by omega)
                  have t0e := hSde.there (x := mb) (by omega)
                  have t1e := (hSde.store (i := mb) (by omega) d1[mc]! o1e).there (x := mc) (by rw [Array.size_setIfInBounds]; omega)
                  obtain ⟨xe, hxe⟩ : ∃ x, x = d1[mc]! := ⟨_, rfl⟩
                  obtain ⟨ye, hye⟩ : ∃ y, y = d1[mb]! := ⟨_, rfl⟩
                  rw [← hxe] at r1e o1e t1e
                  rw [← hye] at r0e o0e
                  rw [← hxe, ← hye] at HSWe
                  have HSWe := hide HSWe
                  have b1e : ((mc : Nat) : Int) < d.size := by omega
                  have b0e : ((mb : Nat) : Int) < d.size := by omega
                  have b3e : mc < d.size := by omega
                  have b2e : mb < d.size := by omega
                  have s1e : (Yba.prog.info? 26).map (·.size) = some (idc xe).length := by rw [idc_len, o1e]; exact info26
                  have s0e : (Yba.prog.info? 26).map (·.size) = some (idc ye).length := by rw [idc_len, o0e]; exact info26
                  have l1e : (idc xe).length = 32 := by rw [idc_len, o1e]
                  have l0e : (idc ye).length = 32 := by rw [idc_len, o0e]
                  have HRTe := hide (And.intro r1e (And.intro r0e (And.intro t0e t1e)))
                  clear hxe hye r1e r0e t0e t1e hSde
                  go_upto_region 10 with fail
                  go_cut [] (fun wc => SR w g (Sort.swp d1 mb mc) wc ∧ W1.heap.size ≤ wc.heap.size)
                  case first =>
                    go_wp2_with fail
                    refine wp_region_any (by kernel_rfl) ?_
                    change wpAny _ _ _ _ _ _ _ (World.drew _)
                    refine wpAny_take (i := 0) (v := ?_) rfl (by kernel_rfl) (by kernel_rfl) (by kernel_rfl) (fun _ _ _ h => h) (Or.inl ⟨by rfl, ?hy0⟩) ?_
                    case hy0 => intro w; go_simp; first | done | (with_reducible rfl)
                    simp only [Act.put, List.getElem_toArray, List.getElem_cons_zero, List.getElem_cons_succ, List.setIfInBounds_toArray, List.set_cons_zero, List.set_cons_succ]
                    refine wpAny_take (i := 1) (v := ?_) rfl (by kernel_rfl) (by kernel_rfl) (by kernel_rfl) (fun _ _ _ h => h) (Or.inl ⟨by rfl, ?hy1⟩) ?_
                    case hy1 => intro w; go_simp; first | done | (with_reducible rfl)
                    simp only [Act.put, List.getElem_toArray, List.getElem_cons_zero, List.getElem_cons_succ, List.setIfInBounds_toArray, List.set_cons_zero, List.set_cons_succ]
                    refine wpAny_take (i := 2) (v := ?_) rfl (by kernel_rfl) (by kernel_rfl) (by kernel_rfl) (fun _ _ _ h => h) (Or.inl ⟨by rfl, ?hy2⟩) ?_
                    case hy2 => intro w; go_simp; first | done | (with_reducible rfl)
                    simp only [Act.put, List.getElem_toArray, List.getElem_cons_zero, List.getElem_cons_succ, List.setIfInBounds_toArray, List.set_cons_zero, List.set_cons_succ]
                    refine wpAny_take (i := 3) (v := ?_) rfl (by kernel_rfl) (by kernel_rfl) (by kernel_rfl) (fun _ _ _ h => h) (Or.inl ⟨by rfl, ?hy3⟩) ?_
                    case hy3 => intro w; go_simp; first | done | (with_reducible rfl)
                    simp only [Act.put, List.getElem_toArray, List.getElem_cons_zero, List.getElem_cons_succ, List.setIfInBounds_toArray, List.set_cons_zero, List.set_cons_succ]
                    refine wpAny_take (i := 4) (v := ?_) rfl (by kernel_rfl) (by kernel_rfl) (by kernel_rfl) (fun _ _ _ h => h) (Or.inl ⟨by rfl, ?hy4⟩) ?_
                    case hy4 => intro w; go_simp; first | done | (with_reducible rfl)
                    simp only [Act.put, List.getElem_toArray, List.getElem_cons_zero, List.getElem_cons_succ, List.setIfInBounds_toArray, List.set_cons_zero, List.set_cons_succ]
                    refine wpAny_take (i := 5) (v := ?_) rfl (by kernel_rfl) (by kernel_rfl) (by kernel_rfl) (fun _ _ _ h => h) (Or.inl ⟨by rfl, ?hy5⟩) ?_
                    case hy5 => intro w; go_simp; first | done | (with_reducible rfl)
                    simp only [Act.put, List.getElem_toArray, List.getElem_cons_zero, List.getElem_cons_succ, List.setIfInBounds_toArray, List.set_cons_zero, List.set_cons_succ]
                    refine wpAny_take (i := 6) (v := ?_) rfl (by kernel_rfl) (by kernel_rfl) (by kernel_rfl) (fun _ _ _ h => h) (Or.inl ⟨by rfl, ?hy6⟩) ?_
                    case hy6 => intro w; go_simp; first | done | (with_reducible rfl)
                    simp only [Act.put, List.getElem_toArray, List.getElem_cons_zero, List.getElem_cons_succ, List.setIfInBounds_toArray, List.set_cons_zero, List.set_cons_succ]
                    refine wpAny_take (i := 8) (v := ?_) rfl (by kernel_rfl) (by kernel_rfl) (by kernel_rfl) (fun _ _ _ h => h) (Or.inl ⟨by rfl, ?hy8⟩) ?_
                    case hy8 => intro w; go_simp; first | done | (with_reducible rfl)
                    simp only [Act.put, List.getElem_toArray, List.getElem_cons_zero, List.getElem_cons_succ, List.setIfInBounds_toArray, List.set_cons_zero, List.set_cons_succ]
                    refine wpAny_take (i := 9) (v := ?_) rfl (by kernel_rfl) (by kernel_rfl) (by kernel_rfl) (fun _ _ _ h => h) (Or.inl ⟨by rfl, ?hy9⟩) ?_
                    case hy9 => intro w; go_simp; first | done | (with_reducible rfl)
                    simp only [Act.put, List.getElem_toArray, List.getElem_cons_zero, List.getElem_cons_succ, List.setIfInBounds_toArray, List.set_cons_zero, List.set_cons_succ]
                    refine wpAny_take (i := 10) (v := ?_) rfl (by kernel_rfl) (by kernel_rfl) (by kernel_rfl) (fun _ _ _ h => h) (Or.inl ⟨by rfl, ?hy10⟩) ?_
                    case hy10 => intro w; go_simp; first | done | (with_reducible rfl)
                    simp only [Act.put, List.getElem_toArray, List.getElem_cons_zero, List.getElem_cons_succ, List.setIfInBounds_toArray, List.set_cons_zero, List.set_cons_succ]
                    refine wpAny_ready (rs := [7, 11]) (by kernel_rfl) (by simp) ?_
                    refine AllReady.cons rfl (fun K hK => ?_) (AllReady.cons rfl (fun K hK => ?_) AllReady.nil)
                    · rw [if_pos (by rfl)]
                      refine wp_load_mid 26 (.tmp 93) rfl g (mc * 32) rfl (idc xe) _ (HRTe.out.1) Yba.underlying26 rfl s1e ?_
                      refine hK _ _ ?_
                      clear hK K
                      simp only [Act.put, List.getElem_toArray, List.getElem_cons_zero, List.getElem_cons_succ, List.setIfInBounds_toArray, List.set_cons_zero, List.set_cons_succ]
                      refine wpAny_ready (rs := [11]) (by kernel_rfl) (by simp) ?_
                      refine AllReady.cons rfl (fun K hK => ?_) AllReady.nil
                      rw [if_pos (by rfl)]
                      refine wp_load_mid 26 (.tmp 97) rfl g (mb * 32) rfl (idc ye) _ (HRTe.out.2.1) Yba.underlying26 rfl s0e ?_
                      refine hK _ _ ?_
                      clear hK K
                      simp only [Act.put, List.getElem_toArray, List.getElem_cons_zero, List.getElem_cons_succ, List.setIfInBounds_toArray, List.set_cons_zero, List.set_cons_succ]
                      refine wpAny_take (i := 12) (v := ?_) rfl (by kernel_rfl) (by kernel_rfl) (by kernel_rfl) (fun _ _ _ h => h) (Or.inl ⟨by rfl, ?hy12⟩) ?_
                      case hy12 => intro w; go_simp; first | done | (with_reducible rfl)
                      simp only [Act.put, List.getElem_toArray, List.getElem_cons_zero, List.getElem_cons_succ, List.setIfInBounds_toArray, List.set_cons_zero, List.set_cons_succ]
                      refine wpAny_ready (rs := [13]) (by kernel_rfl) (by simp) ?_
                      refine AllReady.cons rfl (fun K hK => ?_) AllReady.nil
                      rw [if_pos (by rfl)]
                      refine wp_store_mid 26 (.tmp 99) (.tmp 94) rfl g (mb * 32) (idc xe).toArray rfl rfl (by rw [List.size_toArray, l1e]; exact HRTe.out.2.2.1) (by rw [List.size_toArray]; exact s1e) (by simpa using idc_one xe) ?_
                      refine hK _ _ ?_
                      clear hK K
                      simp only [Act.put, List.getElem_toArray, List.getElem_cons_zero, List.getElem_cons_succ, List.setIfInBounds_toArray, List.set_cons_zero, List.set_cons_succ]
                      refine wpAny_take (i := 14) (v := ?_) rfl (by kernel_rfl) (by kernel_rfl) (by kernel_rfl) (fun _ _ _ h => h) (Or.inl ⟨by rfl, ?hy14⟩) ?_
                      case hy14 => intro w; go_simp; first | done | (with_reducible rfl)
                      simp only [Act.put, List.getElem_toArray, List.getElem_cons_zero, List.getElem_cons_succ, List.setIfInBounds_toArray, List.set_cons_zero, List.set_cons_succ]
                      refine wpAny_ready (rs := [15]) (by kernel_rfl) (by simp) ?_
                      refine AllReady.cons rfl (fun K hK => ?_) AllReady.nil
                      rw [if_pos (by rfl)]
                      refine wp_store_mid 26 (.tmp 100) (.tmp 98) rfl g (mc * 32) (idc ye).toArray rfl rfl (by rw [List.size_toArray, l0e]; exact HRTe.out.2.2.2) (by rw [List.size_toArray]; exact s0e) (by simpa using idc_one ye) ?_
                      refine hK _ _ ?_
                      clear hK K
                      simp only [Act.put, List.getElem_toArray, List.getElem_cons_zero, List.getElem_cons_succ, List.setIfInBounds_toArray, List.set_cons_zero, List.set_cons_succ]
                      refine wpAny_done (by kernel_rfl) ?_ _
                      go_wp2
                      go_meet
                      exact ⟨HSWe.out, by rw [sc_size, sc_size]; exact Nat.le_refl _⟩
                    · rw [if_pos (by rfl)]
                      refine wp_load_mid 26 (.tmp 97) rfl g (mb * 32) rfl (idc ye) _ (HRTe.out.2.1) Yba.underlying26 rfl s0e ?_
                      refine hK _ _ ?_
                      clear hK K
                      simp only [Act.put, List.getElem_toArray, List.getElem_cons_zero, List.getElem_cons_succ, List.setIfInBounds_toArray, List.set_cons_zero, List.set_cons_succ]
                      refine wpAny_ready (rs := [7]) (by kernel_rfl) (by simp) ?_
                      refine AllReady.cons rfl (fun K hK => ?_) AllReady.nil
                      rw [if_pos (by rfl)]
                      refine wp_load_mid 26 (.tmp 93) rfl g (mc * 32) rfl (idc xe) _ (HRTe.out.1) Yba.underlying26 rfl s1e ?_
                      refine hK _ _ ?_
                      clear hK K
                      simp only [Act.put, List.getElem_toArray, List.getElem_cons_zero, List.getElem_cons_succ, List.setIfInBounds_toArray, List.set_cons_zero, List.set_cons_succ]
                      refine wpAny_take (i := 12) (v := ?_) rfl (by kernel_rfl) (by kernel_rfl) (by kernel_rfl) (fun _ _ _ h => h) (Or.inl ⟨by rfl, ?hy12⟩) ?_
                      case hy12 => intro w; go_simp; first | done | (with_reducible rfl)
                      simp only [Act.put, List.getElem_toArray, List.getElem_cons_zero, List.getElem_cons_succ, List.setIfInBounds_toArray, List.set_cons_zero, List.set_cons_succ]
                      refine wpAny_ready (rs := [13]) (by kernel_rfl) (by simp) ?_
                      refine AllReady.cons rfl (fun K hK => ?_) AllReady.nil
                      rw [if_pos (by rfl)]
                      refine wp_store_mid 26 (.tmp 99) (.tmp 94) rfl g (mb * 32) (idc xe).toArray rfl rfl (by rw [List.size_toArray, l1e]; exact HRTe.out.2.2.1) (by rw [List.size_toArray]; exact s1e) (by simpa using idc_one xe) ?_
                      refine hK _ _ ?_
                      clear hK K
                      simp only [Act.put, List.getElem_toArray, List.getElem_cons_zero, List.getElem_cons_succ, List.setIfInBounds_toArray, List.set_cons_zero, List.set_cons_succ]
                      refine wpAny_take (i := 14) (v := ?_) rfl (by kernel_rfl) (by kernel_rfl) (by kernel_rfl) (fun _ _ _ h => h) (Or.inl ⟨by rfl, ?hy14⟩) ?_
                      case hy14 => intro w; go_simp; first | done | (with_reducible rfl)
                      simp only [Act.put, List.getElem_toArray, List.getElem_cons_zero, List.getElem_cons_succ, List.setIfInBounds_toArray, List.set_cons_zero, List.set_cons_succ]
                      refine wpAny_ready (rs := [15]) (by kernel_rfl) (by simp) ?_
                      refine AllReady.cons rfl (fun K hK => ?_) AllReady.nil
                      rw [if_pos (by rfl)]
                      refine wp_store_mid 26 (.tmp 100) (.tmp 98) rfl g (mc * 32) (idc ye).toArray rfl rfl (by rw [List.size_toArray, l0e]; exact HRTe.out.2.2.2) (by rw [List.size_toArray]; exact s0e) (by simpa using idc_one ye) ?_
                      refine hK _ _ ?_
                      clear hK K
                      simp only [Act.put, List.getElem_toArray, List.getElem_cons_zero, List.getElem_cons_succ, List.setIfInBounds_toArray, List.set_cons_zero, List.set_cons_succ]
                      refine wpAny_done (by kernel_rfl) ?_ _
                      go_wp2
                      go_meet
                      exact ⟨HSWe.out, by rw [sc_size, sc_size]; exact Nat.le_refl _⟩
                  case rest =>
                    have HSe := hide hcut.1
                    have hge : g < wc.heap.size := by have := hcut.2; have := hgc; omega
                    skip
                    clear hcut HSWe HRTe
                    go_wp2_with fail
                    go_loopw [12, 13] (fun iv jv wr => ∃ (i j : Nat) (dk : Array ID), a < i ∧ i ≤ 1025 ∧ j < b ∧ iv = .int .i64 i ∧ jv = .int .i64 j ∧ dk.size = d.size ∧ SR w g dk wr ∧ Sort.partLoop Sort.ltStr a i j dk = r) (fun iv jv _ => (intOf jv + 1 - intOf iv).toNat)
                    case atStart => exact ⟨mb + 1, j', Sort.swp d1 mb mc, by omega, by omega, by omega, by go_num, by go_num, by rw [size_swp']; exact hdk1, HSe.out, HRR.out.symm⟩
                    case round =>
                      obtain ⟨i, j, dk, hi, hi2, hj, rfl, rfl, hdk, hS, hO⟩ := hrel
                      have HS := hide (And.intro hS hO)
                      clear hS hO HSe HSc HSa HSb
                      go_wp2_with fail
                      go_loopw [12] (fun v wr => ∃ m : Nat, i ≤ m ∧ m ≤ 1025 ∧ (m ≤ i ∨ m ≤ j + 1) ∧ v = .int .i64 m ∧ SR w g dk wr ∧ Sort.scanUp (fun x => Sort.ltStr x dk[a]!) dk j m = Sort.scanUp (fun x => Sort.ltStr x dk[a]!) dk j i) (fun v _ => ((j : Int) + 1 - intOf v).toNat)
                      case atStart => exact ⟨i, Nat.le_refl _, by omega, Or.inl (Nat.le_refl _), rfl, HS.out.1, rfl⟩
                      case round =>
                        obtain ⟨mf, hm1f, hm2f, hm3f, rfl, hSf, hEf⟩ := hrel
                        have hgqf : g < wr.heap.size := by have := hSf.fw.size; omega
                        have HQf := hide (And.intro hSf hEf)
                        clear hSf hEf
                        obtain ⟨Wf, rfl⟩ : ∃ W, W = wr := ⟨_, rfl⟩
                        go_upto_region 13 with fail
                        go_cut [120] (fun s wc => s = .bool (decide (mf ≤ j) && (Sort.ltStr dk[mf]! dk[a]!)) ∧ Below Wf.heap.size Wf wc)
                        case first =>
                          by_cases hmj : mf ≤ j
                          · have hmi : ((mf : Nat) : Int) ≤ j := by omega
                            have r1f := HQf.out.1.row mf (by omega)
                            have r0f := HQf.out.1.row a (by omega)
                            have o1f := HQf.out.1.ok mf (by omega)
                            have o0f := HQf.out.1.ok a (by omega)
                            obtain ⟨xf, hxf⟩ : ∃ x, x = dk[mf]! := ⟨_, rfl⟩
                            obtain ⟨yf, hyf⟩ : ∃ y, y = dk[a]! := ⟨_, rfl⟩
                            rw [← hxf] at r1f o1f
                            rw [← hyf] at r0f o0f
                            have b1f : ((mf : Nat) : Int) < d.size := by omega
                            have b0f : ((a : Nat) : Int) < d.size := by omega
                            have b3f : mf < d.size := by omega
                            have b2f : a < d.size := by omega
                            have s1f : (Yba.prog.info? 26).map (·.size) = some (idc xf).length := by rw [idc_len, o1f]; exact info26
                            have s0f : (Yba.prog.info? 26).map (·.size) = some (idc yf).length := by rw [idc_len, o0f]; exact info26
                            have HXf := hide (And.intro hxf hyf)
                            have HRf := hide (And.intro r1f r0f)
                            clear hxf hyf r1f r0f
                            go_wp2_with fail
                            refine wp_region_held_drew (S := fun w' => w'.rangeAt g (mf * 32) (idc xf) ∧ w'.rangeAt g (a * 32) (idc yf)) (by kernel_rfl) (R2 HRf.out.1 HRf.out.2 hgqf ((Below.refl _ _).drew)) (fun hHeld => ?_)
                            refine wpAnyH_take (i := 0) (v := ?_) rfl (by kernel_rfl) (by kernel_rfl) (by kernel_rfl) (fun _ _ _ h => h) (Or.inl ⟨by rfl, ?hy0⟩) hHeld ?_
                            case hy0 => intro w hSw; go_simp; first | done | (with_reducible rfl)
                            simp only [Act.put, List.getElem_toArray, List.getElem_cons_zero, List.getElem_cons_succ, List.setIfInBounds_toArray, List.set_cons_zero, List.set_cons_succ]
                            refine wpAnyH_take (i := 1) (v := ?_) rfl (by kernel_rfl) (by kernel_rfl) (by kernel_rfl) (fun _ _ _ h => h) (Or.inl ⟨by rfl, ?hy1⟩) hHeld ?_
                            case hy1 => intro w hSw; go_simp; first | done | (with_reducible rfl)
                            simp only [Act.put, List.getElem_toArray, List.getElem_cons_zero, List.getElem_cons_succ, List.setIfInBounds_toArray, List.set_cons_zero, List.set_cons_succ]
                            refine wpAnyH_take (i := 2) (v := ?_) rfl (by kernel_rfl) (by kernel_rfl) (by kernel_rfl) (fun _ _ _ h => h) (Or.inl ⟨by rfl, ?hy2⟩) hHeld ?_
                            case hy2 => intro w hSw; go_simp; first | done | (with_reducible rfl)
                            simp only [Act.put, List.getElem_toArray, List.getElem_cons_zero, List.getElem_cons_succ, List.setIfInBounds_toArray, List.set_cons_zero, List.set_cons_succ]
                            refine wpAnyH_take (i := 3) (v := ?_) rfl (by kernel_rfl) (by kernel_rfl) (by kernel_rfl) (fun _ _ _ h => h) (Or.inl ⟨by rfl, ?hy3⟩) hHeld ?_
                            case hy3 => intro w hSw; go_simp; first | done | (with_reducible rfl)
                            simp only [Act.put, List.getElem_toArray, List.getElem_cons_zero, List.getElem_cons_succ, List.setIfInBounds_toArray, List.set_cons_zero, List.set_cons_succ]
                            refine wpAnyH_take (i := 4) (v := ?_) rfl (by kernel_rfl) (by kernel_rfl) (by kernel_rfl) (fun _ _ _ h => h) (Or.inl ⟨by rfl, ?hy4⟩) hHeld ?_
                            case hy4 => intro w hSw; go_simp; first | done | (with_reducible rfl)
                            simp only [Act.put, List.getElem_toArray, List.getElem_cons_zero, List.getElem_cons_succ, List.setIfInBounds_toArray, List.set_cons_zero, List.set_cons_succ]
                            refine wpAnyH_take (i := 5) (v := ?_) rfl (by kernel_rfl) (by kernel_rfl) (by kernel_rfl) (fun _ _ _ h => h) (Or.inl ⟨by rfl, ?hy5⟩) hHeld ?_
                            case hy5 => intro w hSw; go_simp; first | done | (with_reducible rfl)
                            simp only [Act.put, List.getElem_toArray, List.getElem_cons_zero, List.getElem_cons_succ, List.setIfInBounds_toArray, List.set_cons_zero, List.set_cons_succ]
                            refine wpAnyH_take (i := 6) (v := ?_) rfl (by kernel_rfl) (by kernel_rfl) (by kernel_rfl) (fun _ _ _ h => h) (Or.inl ⟨by rfl, ?hy6⟩) hHeld ?_
                            case hy6 => intro w hSw; go_simp; first | done | (with_reducible rfl)
                            simp only [Act.put, List.getElem_toArray, List.getElem_cons_zero, List.getElem_cons_succ, List.setIfInBounds_toArray, List.set_cons_zero, List.set_cons_succ]
                            refine wpAnyH_take (i := 7) (v := ?_) rfl (by kernel_rfl) (by kernel_rfl) (by kernel_rfl) (fun _ _ _ h => h) (Or.inl ⟨by rfl, ?hy7⟩) hHeld ?_
                            case hy7 => intro w hSw; go_simp; first | done | (with_reducible rfl)
                            simp only [Act.put, List.getElem_toArray, List.getElem_cons_zero, List.getElem_cons_succ, List.setIfInBounds_toArray, List.set_cons_zero, List.set_cons_succ]
                            refine wpAnyH_take (i := 8) (v := _) rfl (by kernel_rfl) (by kernel_rfl) (by kernel_rfl) (fun _ _ _ h => h) (yieldsIf_load_mid (by rfl) 26 (.tmp 112) rfl g (mf * 32) rfl (idc xf) _ (fun _ h => h.1) Yba.underlying26 rfl s1f) hHeld ?_
                            simp only [Act.put, List.getElem_toArray, List.getElem_cons_zero, List.getElem_cons_succ, List.setIfInBounds_toArray, List.set_cons_zero, List.set_cons_succ]
                            refine wpAnyH_take (i := 9) (v := ?_) rfl (by kernel_rfl) (by kernel_rfl) (by kernel_rfl) (fun _ _ _ h => h) (Or.inl ⟨by rfl, ?hy9⟩) hHeld ?_
                            case hy9 => intro w hSw; go_simp; first | done | (with_reducible rfl)
                            simp only [Act.put, List.getElem_toArray, List.getElem_cons_zero, List.getElem_cons_succ, List.setIfInBounds_toArray, List.set_cons_zero, List.set_cons_succ]
                            refine wpAnyH_take (i := 10) (v := ?_) rfl (by kernel_rfl) (by kernel_rfl) (by kernel_rfl) (fun _ _ _ h => h) (Or.inl ⟨by rfl, ?hy10⟩) hHeld ?_
                            case hy10 => intro w hSw; go_simp; first | done | (with_reducible rfl)
                            simp only [Act.put, List.getElem_toArray, List.getElem_cons_zero, List.getElem_cons_succ, List.setIfInBounds_toArray, List.set_cons_zero, List.set_cons_succ]
                            refine wpAnyH_take (i := 11) (v := ?_) rfl (by kernel_rfl) (by kernel_rfl) (by kernel_rfl) (fun _ _ _ h => h) (Or.inl ⟨by rfl, ?hy11⟩) hHeld ?_
                            case hy11 => intro w hSw; go_simp; first | done | (with_reducible rfl)
                            simp only [Act.put, List.getElem_toArray, List.getElem_cons_zero, List.getElem_cons_succ, List.setIfInBounds_toArray, List.set_cons_zero, List.set_cons_succ]
                            refine wpAnyH_take (i := 12) (v := _) rfl (by kernel_rfl) (by kernel_rfl) (by kernel_rfl) (fun _ _ _ h => h) (yieldsIf_load_mid (by rfl) 26 (.tmp 116) rfl g (a * 32) rfl (idc yf) _ (fun _ h => h.2) Yba.underlying26 rfl s0f) hHeld ?_
                            simp only [Act.put, List.getElem_toArray, List.getElem_cons_zero, List.getElem_cons_succ, List.setIfInBounds_toArray, List.set_cons_zero, List.set_cons_succ]
                            refine wpAnyH_ready (rs := [13]) (by kernel_rfl) (by simp) ?_
                            refine AllReadyH.cons rfl (fun K hK => ?_) AllReadyH.nil
                            rw [if_pos (by rfl)]
                            go_simp
                            refine (order_any xf yf _ o1f o0f).mono ?_
                            rintro e w5 ⟨⟨cc, rfl, hcc⟩, hw5⟩; have HB5 := hide (un_drew hw5); have HC5 := hide hcc; clear hw5 hcc
                            clear hHeld
                            refine hK.out _ _ (R2 HRf.out.1 HRf.out.2 hgqf HB5.out) (fun hHeld => ?_)
                            clear hK K
                            refine wpAnyH_take (i := 14) (v := ?_) rfl (by kernel_rfl) (by kernel_rfl) (by kernel_rfl) (fun _ _ _ h => h) (Or.inl ⟨by rfl, ?hy14⟩) hHeld ?_
                            case hy14 => intro w hSw; go_simp; first | done | (with_reducible rfl)
                            simp only [Act.put, List.getElem_toArray, List.getElem_cons_zero, List.getElem_cons_succ, List.setIfInBounds_toArray, List.set_cons_zero, List.set_cons_succ]
                            refine wpAnyH_take (i := 15) (v := ?_) rfl (by kernel_rfl) (by kernel_rfl) (by kernel_rfl) (fun _ _ _ h => h) (Or.inl ⟨by rfl, ?hy15⟩) hHeld ?_
                            case hy15 => intro w hSw; go_simp; first | done | (with_reducible rfl)
                            simp only [Act.put, List.getElem_toArray, List.getElem_cons_zero, List.getElem_cons_succ, List.setIfInBounds_toArray, List.set_cons_zero, List.set_cons_succ]
                            refine wpAnyH_done (by kernel_rfl) ?_ _
                            go_wp2
                            go_meet
                            have HL : Sort.ltStr xf yf = decide (cc < 0) := (decide_eq_decide.2 HC5.out).symm
                            exact ⟨by rw [← HXf.out.1, ← HXf.out.2, HL, decide_eq_true hmj, Bool.true_and]; first | done | simp, HB5.out⟩
                          · have hmi : ¬ ((mf : Nat) : Int) ≤ j := by omega
                            have hmd : decide (mf ≤ j) = false := decide_eq_false hmj
                            go_wp2_with fail
                            go_quiet (fail)
                            go_wp2
                            go_meet
                            exact ⟨by rw [hmd, Bool.false_and], bdrewN⟩
                        case rest =>
                          obtain ⟨hs, hbc⟩ := hcut
                          subst hs
                          have HSf := hide (HQf.out.1.below hgqf hbc)
                          have hgf : g < wc.heap.size := by have := hbc.size; have := hgqf; omega
                          clear hbc
                          generalize hbb : (decide (mf ≤ j) && (Sort.ltStr dk[mf]! dk[a]!)) = bb
                          cases bb with
                          | true =>
                            have hmj : mf ≤ j := of_decide_eq_true (Bool.and_eq_true_iff.1 hbb).1
                            have HE2 : Hid (Sort.scanUp (fun x => Sort.ltStr x dk[a]!) dk j (mf + 1) = Sort.scanUp (fun x => Sort.ltStr x dk[a]!) dk j i) := ⟨by rw [← HQf.out.2, su_step _ _ _ mf, if_pos hbb]⟩
                            have hw1 := wrap_in ((mf : Int) + 1) (by omega) (by omega)
                            clear hbb
                            go_wp2
                            go_roundw
                            case rel => exact ⟨mf + 1, by omega, by omega, by omega, by go_num, HSf.out, HE2.out⟩
                            case measure => simp [intOf] <;> omega
                          | false =>
                            have Hf : Hid (mf = Sort.scanUp (fun x => Sort.ltStr x dk[a]!) dk j i) := ⟨by rw [← HQf.out.2, su_step _ _ _ mf, if_neg (by rw [hbb]; exact Bool.false_ne_true)]⟩
                            clear hbb HQf hgqf
                            go_wp2_with fail
                            go_loopw [13] (fun v wr => ∃ m : Nat, m ≤ j ∧ v = .int .i64 m ∧ SR w g dk wr ∧ Sort.scanDown (fun x => !Sort.ltStr x dk[a]!) dk mf m = Sort.scanDown (fun x => !Sort.ltStr x dk[a]!) dk mf j) (fun v _ => (intOf v).toNat)
                            case atStart => exact ⟨j, Nat.le_refl _, rfl, HSf.out, rfl⟩
                            case round =>
                              obtain ⟨mh, hm1h, rfl, hSh, hEh⟩ := hrel
                              have hgqh : g < wr.heap.size := by have := hSh.fw.size; omega
                              have HQh := hide (And.intro hSh hEh)
                              clear hSh hEh
                              obtain ⟨Wh, rfl⟩ : ∃ W, W = wr := ⟨_, rfl⟩
                              go_upto_region 15 with fail
                              go_cut [139] (fun s wc => s = .bool (decide (mf ≤ mh) && (!Sort.ltStr dk[mh]! dk[a]!)) ∧ Below Wh.heap.size Wh wc)
                              case first =>
                                by_cases hmj : mf ≤ mh
                                · have hmi : ((mf : Nat) : Int) ≤ mh := by omega
                                  have r1h := HQh.out.1.row mh (by omega)
                                  have r0h := HQh.out.1.row a (by omega)
                                  have o1h := HQh.out.1.ok mh (by omega)
                                  have o0h := HQh.out.1.ok a (by omega)
                                  obtain ⟨xh, hxh⟩ : ∃ x, x = dk[mh]! := ⟨_, rfl⟩
                                  obtain ⟨yh, hyh⟩ : ∃ y, y = dk[a]! := ⟨_, rfl⟩
                                  rw [← hxh] at r1h o1h
                                  rw [← hyh] at r0h o0h
                                  have b1h : ((mh : Nat) : Int) < d.size := by omega
                                  have b0h : ((a : Nat) : Int) < d.size := by omega
                                  have b3h : mh < d.size := by omega
                                  have b2h : a < d.size := by omega
                                  have s1h : (Yba.prog.info? 26).map (·.size) = some (idc xh).length := by rw [idc_len, o1h]; exact info26
                                  have s0h : (Yba.prog.info? 26).map (·.size) = some (idc yh).length := by rw [idc_len, o0h]; exact info26
                                  have HXh := hide (And.intro hxh hyh)
                                  have HRh := hide (And.intro r1h r0h)
                                  clear hxh hyh r1h r0h
                                  go_wp2_with fail
                                  refine wp_region_held_drew (S := fun w' => w'.rangeAt g (mh * 32) (idc xh) ∧ w'.rangeAt g (a * 32) (idc yh)) (by kernel_rfl) (R2 HRh.out.1 HRh.out.2 hgqh ((Below.refl _ _).drew)) (fun hHeld => ?_)
                                  refine wpAnyH_take (i := 0) (v := ?_) rfl (by kernel_rfl) (by kernel_rfl) (by kernel_rfl) (fun _ _ _ h => h) (Or.inl ⟨by rfl, ?hy0⟩) hHeld ?_
                                  case hy0 => intro w hSw; go_simp; first | done | (with_reducible rfl)
                                  simp only [Act.put, List.getElem_toArray, List.getElem_cons_zero, List.getElem_cons_succ, List.setIfInBounds_toArray, List.set_cons_zero, List.set_cons_succ]
                                  refine wpAnyH_take (i := 1) (v := ?_) rfl (by kernel_rfl) (by kernel_rfl) (by kernel_rfl) (fun _ _ _ h => h) (Or.inl ⟨by rfl, ?hy1⟩) hHeld ?_
                                  case hy1 => intro w hSw; go_simp; first | done | (with_reducible rfl)
                                  simp only [Act.put, List.getElem_toArray, List.getElem_cons_zero, List.getElem_cons_succ, List.setIfInBounds_toArray, List.set_cons_zero, List.set_cons_succ]
                                  refine wpAnyH_take (i := 2) (v := ?_) rfl (by kernel_rfl) (by kernel_rfl) (by kernel_rfl) (fun _ _ _ h => h) (Or.inl ⟨by rfl, ?hy2⟩) hHeld ?_
                                  case hy2 => intro w hSw; go_simp; first | done | (with_reducible rfl)
                                  simp only [Act.put, List.getElem_toArray, List.getElem_cons_zero, List.getElem_cons_succ, List.setIfInBounds_toArray, List.set_cons_zero, List.set_cons_succ]
                                  refine wpAnyH_take (i := 3) (v := ?_) rfl (by kernel_rfl) (by kernel_rfl) (by kernel_rfl) (fun _ _ _ h => h) (Or.inl ⟨by rfl, ?hy3⟩) hHeld ?_
                                  case hy3 => intro w hSw; go_simp; first | done | (with_reducible rfl)
                                  simp only [Act.put, List.getElem_toArray, List.getElem_cons_zero, List.getElem_cons_succ, List.setIfInBounds_toArray, List.set_cons_zero, List.set_cons_succ]
                                  refine wpAnyH_take (i := 4) (v := ?_) rfl (by kernel_rfl) (by kernel_rfl) (by kernel_rfl) (fun _ _ _ h => h) (Or.inl ⟨by rfl, ?hy4⟩) hHeld ?_
                                  case hy4 => intro w hSw; go_simp; first | done | (with_reducible rfl)
                                  simp only [Act.put, List.getElem_toArray, List.getElem_cons_zero, List.getElem_cons_succ, List.setIfInBounds_toArray, List.set_cons_zero, List.set_cons_succ]
                                  refine wpAnyH_take (i := 5) (v := ?_) rfl (by kernel_rfl) (by kernel_rfl) (by kernel_rfl) (fun _ _ _ h => h) (Or.inl ⟨by rfl, ?hy5⟩) hHeld ?_
                                  case hy5 => intro w hSw; go_simp; first | done | (with_reducible rfl)
                                  simp only [Act.put, List.getElem_toArray, List.getElem_cons_zero, List.getElem_cons_succ, List.setIfInBounds_toArray, List.set_cons_zero, List.set_cons_succ]
                                  refine wpAnyH_take (i := 6) (v := ?_) rfl (by kernel_rfl) (by kernel_rfl) (by kernel_rfl) (fun _ _ _ h => h) (Or.inl ⟨by rfl, ?hy6⟩) hHeld ?_
                                  case hy6 => intro w hSw; go_simp; first | done | (with_reducible rfl)
                                  simp only [Act.put, List.getElem_toArray, List.getElem_cons_zero, List.getElem_cons_succ, List.setIfInBounds_toArray, List.set_cons_zero, List.set_cons_succ]
                                  refine wpAnyH_take (i := 7) (v := ?_) rfl (by kernel_rfl) (by kernel_rfl) (by kernel_rfl) (fun _ _ _ h => h) (Or.inl ⟨by rfl, ?hy7⟩) hHeld ?_
                                  case hy7 => intro w hSw; go_simp; first | done | (with_reducible rfl)
                                  simp only [Act.put, List.getElem_toArray, List.getElem_cons_zero, List.getElem_cons_succ, List.setIfInBounds_toArray, List.set_cons_zero, List.set_cons_succ]
                                  refine wpAnyH_take (i := 8) (v := _) rfl (by kernel_rfl) (by kernel_rfl) (by kernel_rfl) (fun _ _ _ h => h) (yieldsIf_load_mid (by rfl) 26 (.tmp 130) rfl g (mh * 32) rfl (idc xh) _ (fun _ h => h.1) Yba.underlying26 rfl s1h) hHeld ?_
                                  simp only [Act.put, List.getElem_toArray, List.getElem_cons_zero, List.getElem_cons_succ, List.setIfInBounds_toArray, List.set_cons_zero, List.set_cons_succ]
                                  refine wpAnyH_take (i := 9) (v := ?_) rfl (by kernel_rfl) (by kernel_rfl) (by kernel_rfl) (fun _ _ _ h => h) (Or.inl ⟨by rfl, ?hy9⟩) hHeld ?_
                                  case hy9 => intro w hSw; go_simp; first | done | (with_reducible rfl)
                                  simp only [Act.put, List.getElem_toArray, List.getElem_cons_zero, List.getElem_cons_succ, List.setIfInBounds_toArray, List.set_cons_zero, List.set_cons_succ]
                                  refine wpAnyH_take (i := 10) (v := ?_) rfl (by kernel_rfl) (by kernel_rfl) (by kernel_rfl) (fun _ _ _ h => h) (Or.inl ⟨by rfl, ?hy10⟩) hHeld ?_
                                  case hy10 => intro w hSw; go_simp; first | done | (with_reducible rfl)
                                  simp only [Act.put, List.getElem_toArray, List.getElem_cons_zero, List.getElem_cons_succ, List.setIfInBounds_toArray, List.set_cons_zero, List.set_cons_succ]
                                  refine wpAnyH_take (i := 11) (v := ?_) rfl (by kernel_rfl) (by kernel_rfl) (by kernel_rfl) (fun _ _ _ h => h) (Or.inl ⟨by rfl, ?hy11⟩) hHeld ?_
                                  case hy11 => intro w hSw; go_simp; first | done | (with_reducible rfl)
                                  simp only [Act.put, List.getElem_toArray, List.getElem_cons_zero, List.getElem_cons_succ, List.setIfInBounds_toArray, List.set_cons_zero, List.set_cons_succ]
                                  refine wpAnyH_take (i := 12) (v := _) rfl (by kernel_rfl) (by kernel_rfl) (by kernel_rfl) (fun _ _ _ h => h) (yieldsIf_load_mid (by rfl) 26 (.tmp 134) rfl g (a * 32) rfl (idc yh) _ (fun _ h => h.2) Yba.underlying26 rfl s0h) hHeld ?_
                                  simp only [Act.put, List.getElem_toArray, List.getElem_cons_zero, List.getElem_cons_succ, List.setIfInBounds_toArray, List.set_cons_zero, List.set_cons_succ]
                                  refine wpAnyH_ready (rs := [13]) (by kernel_rfl) (by simp) ?_
                                  refine AllReadyH.cons rfl (fun K hK => ?_) AllReadyH.nil
                                  rw [if_pos (by rfl)]
                                  go_simp
                                  refine (order_any xh yh _ o1h o0h).mono ?_
                                  rintro e w5 ⟨⟨cc, rfl, hcc⟩, hw5⟩; have HB5 := hide (un_drew hw5); have HC5 := hide hcc; clear hw5 hcc
                                  clear hHeld
                                  refine hK.out _ _ (R2 HRh.out.1 HRh.out.2 hgqh HB5.out) (fun hHeld => ?_)
                                  clear hK K
                                  refine wpAnyH_take (i := 14) (v := ?_) rfl (by kernel_rfl) (by kernel_rfl) (by kernel_rfl) (fun _ _ _ h => h) (Or.inl ⟨by rfl, ?hy14⟩) hHeld ?_
                                  case hy14 => intro w hSw; go_simp; first | done | (with_reducible rfl)
                                  simp only [Act.put, List.getElem_toArray, List.getElem_cons_zero, List.getElem_cons_succ, List.setIfInBounds_toArray, List.set_cons_zero, List.set_cons_succ]
                                  refine wpAnyH_take (i := 15) (v := ?_) rfl (by kernel_rfl) (by kernel_rfl) (by kernel_rfl) (fun _ _ _ h => h) (Or.inl ⟨by rfl, ?hy15⟩) hHeld ?_
                                  case hy15 => intro w hSw; go_simp; first | done | (with_reducible rfl)
                                  simp only [Act.put, List.getElem_toArray, List.getElem_cons_zero, List.getElem_cons_succ, List.setIfInBounds_toArray, List.set_cons_zero, List.set_cons_succ]
                                  refine wpAnyH_take (i := 16) (v := ?_) rfl (by kernel_rfl) (by kernel_rfl) (by kernel_rfl) (fun _ _ _ h => h) (Or.inl ⟨by rfl, ?hy16⟩) hHeld ?_
                                  case hy16 => intro w hSw; go_simp; first | done | (with_reducible rfl)
                                  simp only [Act.put, List.getElem_toArray, List.getElem_cons_zero, List.getElem_cons_succ, List.setIfInBounds_toArray, List.set_cons_zero, List.set_cons_succ]
                                  refine wpAnyH_done (by kernel_rfl) ?_ _
                                  go_wp2
                                  go_meet
                                  have HL : Sort.ltStr xh yh = decide (cc < 0) := (decide_eq_decide.2 HC5.out).symm
                                  exact ⟨by rw [← HXh.out.1, ← HXh.out.2, HL, decide_eq_true hmj, Bool.true_and]; first | done | simp, HB5.out⟩
                                · have hmi : ¬ ((mf : Nat) : Int) ≤ mh := by omega
                                  have hmd : decide (mf ≤ mh) = false := decide_eq_false hmj
                                  go_wp2_with fail
                                  go_quiet (fail)
                                  go_wp2
                                  go_meet
                                  exact ⟨by rw [hmd, Bool.false_and], bdrewN⟩
                              case rest =>
                                obtain ⟨hs, hbc⟩ := hcut
                                subst hs
                                have HSh := hide (HQh.out.1.below hgqh hbc)
                                have hgh : g < wc.heap.size := by have := hbc.size; have := hgqh; omega
                                clear hbc
                                generalize hbb : (decide (mf ≤ mh) && (!Sort.ltStr dk[mh]! dk[a]!)) = bb
                                cases bb with
                                | true =>
                                  have hmj : mf ≤ mh := of_decide_eq_true (Bool.and_eq_true_iff.1 hbb).1
                                  obtain ⟨m', hm'⟩ : ∃ m', m' = mh - 1 := ⟨_, rfl⟩
                                  have HE2 : Hid (Sort.scanDown (fun x => !Sort.ltStr x dk[a]!) dk mf m' = Sort.scanDown (fun x => !Sort.ltStr x dk[a]!) dk mf j) := ⟨by rw [← HQh.out.2, sw_step _ _ _ mh (by omega), if_pos hbb, hm']⟩
                                  have hw1 : IntKind.i64.wrap ((mh : Int) - 1) = m' := by rw [wrap_in _ (by omega) (by omega)]; omega
                                  have hm2 : m' < mh := by omega
                                  clear hbb hm'
                                  go_wp2
                                  go_roundw
                                  case rel => exact ⟨m', by omega, by go_num, HSh.out, HE2.out⟩
                                  case measure => simp [intOf] <;> omega
                                | false =>
                                  have Hh : Hid (mh = Sort.scanDown (fun x => !Sort.ltStr x dk[a]!) dk mf j) := ⟨by rw [← HQh.out.2, sw_step _ _ _ mh (by omega), if_neg (by rw [hbb]; exact Bool.false_ne_true)]⟩
                                  clear hbb HQh hgqh
                                  have HP := hide (pp_step a i j dk Hf.out Hh.out hm1f hm1h)
                                  clear Hf Hh
                                  by_cases hgt2 : mf > mh
                                  · have z3 : (mh : Int) < mf := by omega
                                    have HG : Hid (r = (mh, dk)) := ⟨by rw [← HS.out.2, HP.out, if_pos hgt2]⟩
                                    obtain ⟨W3, rfl⟩ : ∃ W3, W3 = wc := ⟨_, rfl⟩
                                    have hSdp := HSh.out.below hgh ((Below.refl _ _).drew)
                                    have HSWp := hSdp.swap (i := mh) (j := a) (by omega) (by omega)
                                    have r1p := hSdp.row a (by omega)
                                    have r0p := hSdp.row mh (by omega)
                                    have o1p := hSdp.ok a (by omega)
                                    have o0p := hSdp.ok mh (by omega)
                                    have t0p := hSdp.there (x := mh) (by omega)
                                    have t1p := (hSdp.store (i := mh) (by omega) dk[a]! o1p).there (x := a) (by rw [Array.size_setIfInBounds]; omega)
                                    obtain ⟨xp, hxp⟩ : ∃ x, x = dk[a]! := ⟨_, rfl⟩
                                    obtain ⟨yp, hyp⟩ : ∃ y, y = dk[mh]! := ⟨_, rfl⟩
                                    rw [← hxp] at r1p o1p t1p
                                    rw [← hyp] at r0p o0p
                                    rw [← hxp, ← hyp] at HSWp
                                    have HSWp := hide HSWp
                                    have b1p : ((a : Nat) : Int) < d.size := by omega
                                    have b0p : ((mh : Nat) : Int) < d.size := by omega
                                    have b3p : a < d.size := by omega
                                    have b2p : mh < d.size := by omega
                                    have s1p : (Yba.prog.info? 26).map (·.size) = some (idc xp).length := by rw [idc_len, o1p]; exact info26
                                    have s0p : (Yba.prog.info? 26).map (·.size) = some (idc yp).length := by rw [idc_len, o0p]; exact info26
                                    have l1p : (idc xp).length = 32 := by rw [idc_len, o1p]
                                    have l0p : (idc yp).length = 32 := by rw [idc_len, o0p]
                                    have HRTp := hide (And.intro r1p (And.intro r0p (And.intro t0p t1p)))
                                    clear hxp hyp r1p r0p t0p t1p hSdp
                                    go_upto_region 21 with fail
                                    go_cut [] (fun wc => SR w g (Sort.swp dk mh a) wc ∧ W3.heap.size ≤ wc.heap.size)
                                    case first =>
                                      go_wp2_with fail
                                      refine wp_region_any (by kernel_rfl) ?_
                                      change wpAny _ _ _ _ _ _ _ (World.drew _)
                                      refine wpAny_take (i := 0) (v := ?_) rfl (by kernel_rfl) (by kernel_rfl) (by kernel_rfl) (fun _ _ _ h => h) (Or.inl ⟨by rfl, ?hy0⟩) ?_
                                      case hy0 => intro w; go_simp; first | done | (with_reducible rfl)
                                      simp only [Act.put, List.getElem_toArray, List.getElem_cons_zero, List.getElem_cons_succ, List.setIfInBounds_toArray, List.set_cons_zero, List.set_cons_succ]
                                      refine wpAny_take (i := 1) (v := ?_) rfl (by kernel_rfl) (by kernel_rfl) (by kernel_rfl) (fun _ _ _ h => h) (Or.inl ⟨by rfl, ?hy1⟩) ?_
                                      case hy1 => intro w; go_simp; first | done | (with_reducible rfl)
                                      simp only [Act.put, List.getElem_toArray, List.getElem_cons_zero, List.getElem_cons_succ, List.setIfInBounds_toArray, List.set_cons_zero, List.set_cons_succ]
                                      refine wpAny_take (i := 2) (v := ?_) rfl (by kernel_rfl) (by kernel_rfl) (by kernel_rfl) (fun _ _ _ h => h) (Or.inl ⟨by rfl, ?hy2⟩) ?_
                                      case hy2 => intro w; go_simp; first | done | (with_reducible rfl)
                                      simp only [Act.put, List.getElem_toArray, List.getElem_cons_zero, List.getElem_cons_succ, List.setIfInBounds_toArray, List.set_cons_zero, List.set_cons_succ]
                                      refine wpAny_take (i := 3) (v := ?_) rfl (by kernel_rfl) (by kernel_rfl) (by kernel_rfl) (fun _ _ _ h => h) (Or.inl ⟨by rfl, ?hy3⟩) ?_
                                      case hy3 => intro w; go_simp; first | done | (with_reducible rfl)
                                      simp only [Act.put, List.getElem_toArray, List.getElem_cons_zero, List.getElem_cons_succ, List.setIfInBounds_toArray, List.set_cons_zero, List.set_cons_succ]
                                      refine wpAny_take (i := 4) (v := ?_) rfl (by kernel_rfl) (by kernel_rfl) (by kernel_rfl) (fun _ _ _ h => h) (Or.inl ⟨by rfl, ?hy4⟩) ?_
                                      case hy4 => intro w; go_simp; first | done | (with_reducible rfl)
                                      simp only [Act.put, List.getElem_toArray, List.getElem_cons_zero, List.getElem_cons_succ, List.setIfInBounds_toArray, List.set_cons_zero, List.set_cons_succ]
                                      refine wpAny_take (i := 5) (v := ?_) rfl (by kernel_rfl) (by kernel_rfl) (by kernel_rfl) (fun _ _ _ h => h) (Or.inl ⟨by rfl, ?hy5⟩) ?_
                                      case hy5 => intro w; go_simp; first | done | (with_reducible rfl)
                                      simp only [Act.put, List.getElem_toArray, List.getElem_cons_zero, List.getElem_cons_succ, List.setIfInBounds_toArray, List.set_cons_zero, List.set_cons_succ]
                                      refine wpAny_take (i := 6) (v := ?_) rfl (by kernel_rfl) (by kernel_rfl) (by kernel_rfl) (fun _ _ _ h => h) (Or.inl ⟨by rfl, ?hy6⟩) ?_
                                      case hy6 => intro w; go_simp; first | done | (with_reducible rfl)
                                      simp only [Act.put, List.getElem_toArray, List.getElem_cons_zero, List.getElem_cons_succ, List.setIfInBounds_toArray, List.set_cons_zero, List.set_cons_succ]
                                      refine wpAny_take (i := 8) (v := ?_) rfl (by kernel_rfl) (by kernel_rfl) (by kernel_rfl) (fun _ _ _ h => h) (Or.inl ⟨by rfl, ?hy8⟩) ?_
                                      case hy8 => intro w; go_simp; first | done | (with_reducible rfl)
                                      simp only [Act.put, List.getElem_toArray, List.getElem_cons_zero, List.getElem_cons_succ, List.setIfInBounds_toArray, List.set_cons_zero, List.set_cons_succ]
                                      refine wpAny_take (i := 9) (v := ?_) rfl (by kernel_rfl) (by kernel_rfl) (by kernel_rfl) (fun _ _ _ h => h) (Or.inl ⟨by rfl, ?hy9⟩) ?_
                                      case hy9 => intro w; go_simp; first | done | (with_reducible rfl)
                                      simp only [Act.put, List.getElem_toArray, List.getElem_cons_zero, List.getElem_cons_succ, List.setIfInBounds_toArray, List.set_cons_zero, List.set_cons_succ]
                                      refine wpAny_take (i := 10) (v := ?_) rfl (by kernel_rfl) (by kernel_rfl) (by kernel_rfl) (fun _ _ _ h => h) (Or.inl ⟨by rfl, ?hy10⟩) ?_
                                      case hy10 => intro w; go_simp; first | done | (with_reducible rfl)
                                      simp only [Act.put, List.getElem_toArray, List.getElem_cons_zero, List.getElem_cons_succ, List.setIfInBounds_toArray, List.set_cons_zero, List.set_cons_succ]
                                      refine wpAny_ready (rs := [7, 11]) (by kernel_rfl) (by simp) ?_
                                      refine AllReady.cons rfl (fun K hK => ?_) (AllReady.cons rfl (fun K hK => ?_) AllReady.nil)
                                      · rw [if_pos (by rfl)]
                                        refine wp_load_mid 26 (.tmp 169) rfl g (a * 32) rfl (idc xp) _ (HRTp.out.1) Yba.underlying26 rfl s1p ?_
                                        refine hK _ _ ?_
                                        clear hK K
                                        simp only [Act.put, List.getElem_toArray, List.getElem_cons_zero, List.getElem_cons_succ, List.setIfInBounds_toArray, List.set_cons_zero, List.set_cons_succ]
                                        refine wpAny_ready (rs := [11]) (by kernel_rfl) (by simp) ?_
                                        refine AllReady.cons rfl (fun K hK => ?_) AllReady.nil
                                        rw [if_pos (by rfl)]
                                        refine wp_load_mid 26 (.tmp 173) rfl g (mh * 32) rfl (idc yp) _ (HRTp.out.2.1) Yba.underlying26 rfl s0p ?_
                                        refine hK _ _ ?_
                                        clear hK K
                                        simp only [Act.put, List.getElem_toArray, List.getElem_cons_zero, List.getElem_cons_succ, List.setIfInBounds_toArray, List.set_cons_zero, List.set_cons_succ]
                                        refine wpAny_take (i := 12) (v := ?_) rfl (by kernel_rfl) (by kernel_rfl) (by kernel_rfl) (fun _ _ _ h => h) (Or.inl ⟨by rfl, ?hy12⟩) ?_
                                        case hy12 => intro w; go_simp; first | done | (with_reducible rfl)
                                        simp only [Act.put, List.getElem_toArray, List.getElem_cons_zero, List.getElem_cons_succ, List.setIfInBounds_toArray, List.set_cons_zero, List.set_cons_succ]
                                        refine wpAny_ready (rs := [13]) (by kernel_rfl) (by simp) ?_
                                        refine AllReady.cons rfl (fun K hK => ?_) AllReady.nil
                                        rw [if_pos (by rfl)]
                                        refine wp_store_mid 26 (.tmp 175) (.tmp 170) rfl g (mh * 32) (idc xp).toArray rfl rfl (by rw [List.size_toArray, l1p]; exact HRTp.out.2.2.1) (by rw [List.size_toArray]; exact s1p) (by simpa using idc_one xp) ?_
                                        refine hK _ _ ?_
                                        clear hK K
                                        simp only [Act.put, List.getElem_toArray, List.getElem_cons_zero, List.getElem_cons_succ, List.setIfInBounds_toArray, List.set_cons_zero, List.set_cons_succ]
                                        refine wpAny_take (i := 14) (v := ?_) rfl (by kernel_rfl) (by kernel_rfl) (by kernel_rfl) (fun _ _ _ h => h) (Or.inl ⟨by rfl, ?hy14⟩) ?_
                                        case hy14 => intro w; go_simp; first | done | (with_reducible rfl)
                                        simp only [Act.put, List.getElem_toArray, List.getElem_cons_zero, List.getElem_cons_succ, List.setIfInBounds_toArray, List.set_cons_zero, List.set_cons_succ]
                                        refine wpAny_ready (rs := [15]) (by kernel_rfl) (by simp) ?_
                                        refine AllReady.cons rfl (fun K hK => ?_) AllReady.nil
                                        rw [if_pos (by rfl)]
                                        refine wp_store_mid 26 (.tmp 176) (.tmp 174) rfl g (a * 32) (idc yp).toArray rfl rfl (by rw [List.size_toArray, l0p]; exact HRTp.out.2.2.2) (by rw [List.size_toArray]; exact s0p) (by simpa using idc_one yp) ?_
                                        refine hK _ _ ?_
                                        clear hK K
                                        simp only [Act.put, List.getElem_toArray, List.getElem_cons_zero, List.getElem_cons_succ, List.setIfInBounds_toArray, List.set_cons_zero, List.set_cons_succ]
                                        refine wpAny_done (by kernel_rfl) ?_ _
                                        go_wp2
                                        go_meet
                                        exact ⟨HSWp.out, by rw [sc_size, sc_size]; exact Nat.le_refl _⟩
                                      · rw [if_pos (by rfl)]
                                        refine wp_load_mid 26 (.tmp 173) rfl g (mh * 32) rfl (idc yp) _ (HRTp.out.2.1) Yba.underlying26 rfl s0p ?_
                                        refine hK _ _ ?_
                                        clear hK K
                                        simp only [Act.put, List.getElem_toArray, List.getElem_cons_zero, List.getElem_cons_succ, List.setIfInBounds_toArray, List.set_cons_zero, List.set_cons_succ]
                                        refine wpAny_ready (rs := [7]) (by kernel_rfl) (by simp) ?_
                                        refine AllReady.cons rfl (fun K hK => ?_) AllReady.nil
                                        rw [if_pos (by rfl)]
                                        refine wp_load_mid 26 (.tmp 169) rfl g (a * 32) rfl (idc xp) _ (HRTp.out.1) Yba.underlying26 rfl s1p ?_
                                        refine hK _ _ ?_
                                        clear hK K
                                        simp only [Act.put, List.getElem_toArray, List.getElem_cons_zero, List.getElem_cons_succ, List.setIfInBounds_toArray, List.set_cons_zero, List.set_cons_succ]
                                        refine wpAny_take (i := 12) (v := ?_) rfl (by kernel_rfl) (by kernel_rfl) (by kernel_rfl) (fun _ _ _ h => h) (Or.inl ⟨by rfl, ?hy12⟩) ?_
                                        case hy12 => intro w; go_simp; first | done | (with_reducible rfl)
                                        simp only [Act.put, List.getElem_toArray, List.getElem_cons_zero, List.getElem_cons_succ, List.setIfInBounds_toArray, List.set_cons_zero, List.set_cons_succ]
                                        refine wpAny_ready (rs := [13]) (by kernel_rfl) (by simp) ?_
                                        refine AllReady.cons rfl (fun K hK => ?_) AllReady.nil
                                        rw [if_pos (by rfl)]
                                        refine wp_store_mid 26 (.tmp 175) (.tmp 170) rfl g (mh * 32) (idc xp).toArray rfl rfl (by rw [List.size_toArray, l1p]; exact HRTp.out.2.2.1) (by rw [List.size_toArray]; exact s1p) (by simpa using idc_one xp) ?_
                                        refine hK _ _ ?_
                                        clear hK K
                                        simp only [Act.put, List.getElem_toArray, List.getElem_cons_zero, List.getElem_cons_succ, List.setIfInBounds_toArray, List.set_cons_zero, List.set_cons_succ]
                                        refine wpAny_take (i := 14) (v := ?_) rfl (by kernel_rfl) (by kernel_rfl) (by kernel_rfl) (fun _ _ _ h => h) (Or.inl ⟨by rfl, ?hy14⟩) ?_
                                        case hy14 => intro w; go_simp; first | done | (with_reducible rfl)
                                        simp only [Act.put, List.getElem_toArray, List.getElem_cons_zero, List.getElem_cons_succ, List.setIfInBounds_toArray, List.set_cons_zero, List.set_cons_succ]
                                        refine wpAny_ready (rs := [15]) (by kernel_rfl) (by simp) ?_
                                        refine AllReady.cons rfl (fun K hK => ?_) AllReady.nil
                                        rw [if_pos (by rfl)]
                                        refine wp_store_mid 26 (.tmp 176) (.tmp 174) rfl g (a * 32) (idc yp).toArray rfl rfl (by rw [List.size_toArray, l0p]; exact HRTp.out.2.2.2) (by rw [List.size_toArray]; exact s0p) (by simpa using idc_one yp) ?_
                                        refine hK _ _ ?_
                                        clear hK K
                                        simp only [Act.put, List.getElem_toArray, List.getElem_cons_zero, List.getElem_cons_succ, List.setIfInBounds_toArray, List.set_cons_zero, List.set_cons_succ]
                                        refine wpAny_done (by kernel_rfl) ?_ _
                                        go_wp2
                                        go_meet
                                        exact ⟨HSWp.out, by rw [sc_size, sc_size]; exact Nat.le_refl _⟩
                                    case rest =>
                                      have HSp := hide hcut.1
                                      have hgp : g < wc.heap.size := by have := hcut.2; have := hgh; omega
                                      skip
                                      clear hcut HSWp HRTp
                                      go_wp2
                                      go_ret2
                                      rw [HF.out, HG.out]
                                      exact ⟨rfl, HSp.out⟩
                                  · have z3 : ¬ (mh : Int) < mf := by omega
                                    obtain ⟨j2, hj2⟩ : ∃ j2, j2 = mh - 1 := ⟨_, rfl⟩
                                    have z5 := wrap_in ((mf : Int) + 1) (by omega) (by omega)
                                    have z6 : IntKind.i64.wrap ((mh : Int) - 1) = j2 := by rw [wrap_in _ (by omega) (by omega)]; omega
                                    have HG : Hid (Sort.partLoop Sort.ltStr a (mf + 1) j2 (Sort.swp dk mf mh) = r) := ⟨by rw [← HS.out.2, HP.out, if_neg hgt2, hj2]⟩
                                    have hj3 : j2 < mh := by omega
                                    clear hj2 HP
                                    obtain ⟨W3, rfl⟩ : ∃ W3, W3 = wc := ⟨_, rfl⟩
                                    have hSdq := HSh.out.below hgh ((Below.refl _ _).drew)
                                    have HSWq := hSdq.swap (i := mf) (j := mh) (by omega) (by omega)
                                    have r1q := hSdq.row mh (by omega)
                                    have r0q := hSdq.row mf (by omega)
                                    have o1q := hSdq.ok mh (by omega)
                                    have o0q := hSdq.ok mf (by omega)
                                    have t0q := hSdq.there (x := mf) (by omega)
                                    have t1q := (hSdq.store (i := mf) (by omega) dk[mh]! o1q).there (x := mh) (by rw [Array.size_setIfInBounds]; omega)
                                    obtain ⟨xq, hxq⟩ : ∃ x, x = dk[mh]! := ⟨_, rfl⟩
                                    obtain ⟨yq, hyq⟩ : ∃ y, y = dk[mf]! := ⟨_, rfl⟩
                                    rw [← hxq] at r1q o1q t1q
                                    rw [← hyq] at r0q o0q
                                    rw [← hxq, ← hyq] at HSWq
                                    have HSWq := hide HSWq
                                    have b1q : ((mh : Nat) : Int) < d.size := by omega
                                    have b0q : ((mf : Nat) : Int) < d.size := by omega
                                    have b3q : mh < d.size := by omega
                                    have b2q : mf < d.size := by omega
                                    have s1q : (Yba.prog.info? 26).map (·.size) = some (idc xq).length := by rw [idc_len, o1q]; exact info26
                                    have s0q : (Yba.prog.info? 26).map (·.size) = some (idc yq).length := by rw [idc_len, o0q]; exact info26
                                    have l1q : (idc xq).length = 32 := by rw [idc_len, o1q]
                                    have l0q : (idc yq).length = 32 := by rw [idc_len, o0q]
                                    have HRTq := hide (And.intro r1q (And.intro r0q (And.intro t0q t1q)))
                                    clear hxq hyq r1q r0q t0q t1q hSdq
                                    go_upto_region 18 with fail
                                    go_cut [] (fun wc => SR w g (Sort.swp dk mf mh) wc ∧ W3.heap.size ≤ wc.heap.size)
                                    case first =>
                                      go_wp2_with fail
                                      refine wp_region_any (by kernel_rfl) ?_
                                      change wpAny _ _ _ _ _ _ _ (World.drew _)
                                      refine wpAny_take (i := 0) (v := ?_) rfl (by kernel_rfl) (by kernel_rfl) (by kernel_rfl) (fun _ _ _ h => h) (Or.inl ⟨by rfl, ?hy0⟩) ?_
                                      case hy0 => intro w; go_simp; first | done | (with_reducible rfl)
                                      simp only [Act.put, List.getElem_toArray, List.getElem_cons_zero, List.getElem_cons_succ, List.setIfInBounds_toArray, List.set_cons_zero, List.set_cons_succ]
                                      refine wpAny_take (i := 1) (v := ?_) rfl (by kernel_rfl) (by kernel_rfl) (by kernel_rfl) (fun _ _ _ h => h) (Or.inl ⟨by rfl, ?hy1⟩) ?_
                                      case hy1 => intro w; go_simp; first | done | (with_reducible rfl)
                                      simp only [Act.put, List.getElem_toArray, List.getElem_cons_zero, List.getElem_cons_succ, List.setIfInBounds_toArray, List.set_cons_zero, List.set_cons_succ]
                                      refine wpAny_take (i := 2) (v := ?_) rfl (by kernel_rfl) (by kernel_rfl) (by kernel_rfl) (fun _ _ _ h => h) (Or.inl ⟨by rfl, ?hy2⟩) ?_
                                      case hy2 => intro w; go_simp; first | done | (with_reducible rfl)
                                      simp only [Act.put, List.getElem_toArray, List.getElem_cons_zero, List.getElem_cons_succ, List.setIfInBounds_toArray, List.set_cons_zero, List.set_cons_succ]
                                      refine wpAny_take (i := 3) (v := ?_) rfl (by kernel_rfl) (by kernel_rfl) (by kernel_rfl) (fun _ _ _ h => h) (Or.inl ⟨by rfl, ?hy3⟩) ?_
                                      case hy3 => intro w; go_simp; first | done | (with_reducible rfl)
                                      simp only [Act.put, List.getElem_toArray, List.getElem_cons_zero, List.getElem_cons_succ, List.setIfInBounds_toArray, List.set_cons_zero, List.set_cons_succ]
                                      refine wpAny_take (i := 4) (v := ?_) rfl (by kernel_rfl) (by kernel_rfl) (by kernel_rfl) (fun _ _ _ h => h) (Or.inl ⟨by rfl, ?hy4⟩) ?_
                                      case hy4 => intro w; go_simp; first | done | (with_reducible rfl)
                                      simp only [Act.put, List.getElem_toArray, List.getElem_cons_zero, List.getElem_cons_succ, List.setIfInBounds_toArray, List.set_cons_zero, List.set_cons_succ]
                                      refine wpAny_take (i := 5) (v := ?_) rfl (by kernel_rfl) (by kernel_rfl) (by kernel_rfl) (fun _ _ _ h => h) (Or.inl ⟨by rfl, ?hy5⟩) ?_
                                      case hy5 => intro w; go_simp; first | done | (with_reducible rfl)
                                      simp only [Act.put, List.getElem_toArray, List.getElem_cons_zero, List.getElem_cons_succ, List.setIfInBounds_toArray, List.set_cons_zero, List.set_cons_succ]
                                      refine wpAny_take (i := 6) (v := ?_) rfl (by kernel_rfl) (by kernel_rfl) (by kernel_rfl) (fun _ _ _ h => h) (Or.inl ⟨by rfl, ?hy6⟩) ?_
                                      case hy6 => intro w; go_simp; first | done | (with_reducible rfl)
                                      simp only [Act.put, List.getElem_toArray, List.getElem_cons_zero, List.getElem_cons_succ, List.setIfInBounds_toArray, List.set_cons_zero, List.set_cons_succ]
                                      refine wpAny_take (i := 8) (v := ?_) rfl (by kernel_rfl) (by kernel_rfl) (by kernel_rfl) (fun _ _ _ h => h) (Or.inl ⟨by rfl, ?hy8⟩) ?_
                                      case hy8 => intro w; go_simp; first | done | (with_reducible rfl)
                                      simp only [Act.put, List.getElem_toArray, List.getElem_cons_zero, List.getElem_cons_succ, List.setIfInBounds_toArray, List.set_cons_zero, List.set_cons_succ]
                                      refine wpAny_take (i := 9) (v := ?_) rfl (by kernel_rfl) (by kernel_rfl) (by kernel_rfl) (fun _ _ _ h => h) (Or.inl ⟨by rfl, ?hy9⟩) ?_
                                      case hy9 => intro w; go_simp; first | done | (with_reducible rfl)
                                      simp only [Act.put, List.getElem_toArray, List.getElem_cons_zero, List.getElem_cons_succ, List.setIfInBounds_toArray, List.set_cons_zero, List.set_cons_succ]
                                      refine wpAny_take (i := 10) (v := ?_) rfl (by kernel_rfl) (by kernel_rfl) (by kernel_rfl) (fun _ _ _ h => h) (Or.inl ⟨by rfl, ?hy10⟩) ?_
                                      case hy10 => intro w; go_simp; first | done | (with_reducible rfl)
                                      simp only [Act.put, List.getElem_toArray, List.getElem_cons_zero, List.getElem_cons_succ, List.setIfInBounds_toArray, List.set_cons_zero, List.set_cons_succ]
                                      refine wpAny_ready (rs := [7, 11]) (by kernel_rfl) (by simp) ?_
                                      refine AllReady.cons rfl (fun K hK => ?_) (AllReady.cons rfl (fun K hK => ?_) AllReady.nil)
                                      · rw [if_pos (by rfl)]
                                        refine wp_load_mid 26 (.tmp 151) rfl g (mh * 32) rfl (idc xq) _ (HRTq.out.1) Yba.underlying26 rfl s1q ?_
                                        refine hK _ _ ?_
                                        clear hK K
                                        simp only [Act.put, List.getElem_toArray, List.getElem_cons_zero, List.getElem_cons_succ, List.setIfInBounds_toArray, List.set_cons_zero, List.set_cons_succ]
                                        refine wpAny_ready (rs := [11]) (by kernel_rfl) (by simp) ?_
                                        refine AllReady.cons rfl (fun K hK => ?_) AllReady.nil
                                        rw [if_pos (by rfl)]
                                        refine wp_load_mid 26 (.tmp 155) rfl g (mf * 32) rfl (idc yq) _ (HRTq.out.2.1) Yba.underlying26 rfl s0q ?_
                                        refine hK _ _ ?_
                                        clear hK K
                                        simp only [Act.put, List.getElem_toArray, List.getElem_cons_zero, List.getElem_cons_succ, List.setIfInBounds_toArray, List.set_cons_zero, List.set_cons_succ]
                                        refine wpAny_take (i := 12) (v := ?_) rfl (by kernel_rfl) (by kernel_rfl) (by kernel_rfl) (fun _ _ _ h => h) (Or.inl ⟨by rfl, ?hy12⟩) ?_
                                        case hy12 => intro w; go_simp; first | done | (with_reducible rfl)
                                        simp only [Act.put, List.getElem_toArray, List.getElem_cons_zero, List.getElem_cons_succ, List.setIfInBounds_toArray, List.set_cons_zero, List.set_cons_succ]
                                        refine wpAny_ready (rs := [13]) (by kernel_rfl) (by simp) ?_
                                        refine AllReady.cons rfl (fun K hK => ?_) AllReady.nil
                                        rw [if_pos (by rfl)]
                                        refine wp_store_mid 26 (.tmp 157) (.tmp 152) rfl g (mf * 32) (idc xq).toArray rfl rfl (by rw [List.size_toArray, l1q]; exact HRTq.out.2.2.1) (by rw [List.size_toArray]; exact s1q) (by simpa using idc_one xq) ?_
                                        refine hK _ _ ?_
                                        clear hK K
                                        simp only [Act.put, List.getElem_toArray, List.getElem_cons_zero, List.getElem_cons_succ, List.setIfInBounds_toArray, List.set_cons_zero, List.set_cons_succ]
                                        refine wpAny_take (i := 14) (v := ?_) rfl (by kernel_rfl) (by kernel_rfl) (by kernel_rfl) (fun _ _ _ h => h) (Or.inl ⟨by rfl, ?hy14⟩) ?_
                                        case hy14 => intro w; go_simp; first | done | (with_reducible rfl)
                                        simp only [Act.put, List.getElem_toArray, List.getElem_cons_zero, List.getElem_cons_succ, List.setIfInBounds_toArray, List.set_cons_zero, List.set_cons_succ]
                                        refine wpAny_ready (rs := [15]) (by kernel_rfl) (by simp) ?_
                                        refine AllReady.cons rfl (fun K hK => ?_) AllReady.nil
                                        rw [if_pos (by rfl)]
                                        refine wp_store_mid 26 (.tmp 158) (.tmp 156) rfl g (mh * 32) (idc yq).toArray rfl rfl (by rw [List.size_toArray, l0q]; exact HRTq.out.2.2.2) (by rw [List.size_toArray]; exact s0q) (by simpa using idc_one yq) ?_
                                        refine hK _ _ ?_
                                        clear hK K
                                        simp only [Act.put, List.getElem_toArray, List.getElem_cons_zero, List.getElem_cons_succ, List.setIfInBounds_toArray, List.set_cons_zero, List.set_cons_succ]
                                        refine wpAny_done (by kernel_rfl) ?_ _
                                        go_wp2
                                        go_meet
                                        exact ⟨HSWq.out, by rw [sc_size, sc_size]; exact Nat.le_refl _⟩
                                      · rw [if_pos (by rfl)]
                                        refine wp_load_mid 26 (.tmp 155) rfl g (mf * 32) rfl (idc yq) _ (HRTq.out.2.1) Yba.underlying26 rfl s0q ?_
                                        refine hK _ _ ?_
                                        clear hK K
                                        simp only [Act.put, List.getElem_toArray, List.getElem_cons_zero, List.getElem_cons_succ, List.setIfInBounds_toArray, List.set_cons_zero, List.set_cons_succ]
                                        refine wpAny_ready (rs := [7]) (by kernel_rfl) (by simp) ?_
                                        refine AllReady.cons rfl (fun K hK => ?_) AllReady.nil
                                        rw [if_pos (by rfl)]
                                        refine wp_load_mid 26 (.tmp 151) rfl g (mh * 32) rfl (idc xq) _ (HRTq.out.1) Yba.underlying26 rfl s1q ?_
                                        refine hK _ _ ?_
                                        clear hK K
                                        simp only [Act.put, List.getElem_toArray, List.getElem_cons_zero, List.getElem_cons_succ, List.setIfInBounds_toArray, List.set_cons_zero, List.set_cons_succ]
                                        refine wpAny_take (i := 12) (v := ?_) rfl (by kernel_rfl) (by kernel_rfl) (by kernel_rfl) (fun _ _ _ h => h) (Or.inl ⟨by rfl, ?hy12⟩) ?_
                                        case hy12 => intro w; go_simp; first | done | (with_reducible rfl)
                                        simp only [Act.put, List.getElem_toArray, List.getElem_cons_zero, List.getElem_cons_succ, List.setIfInBounds_toArray, List.set_cons_zero, List.set_cons_succ]
                                        refine wpAny_ready (rs := [13]) (by kernel_rfl) (by simp) ?_
                                        refine AllReady.cons rfl (fun K hK => ?_) AllReady.nil
                                        rw [if_pos (by rfl)]
                                        refine wp_store_mid 26 (.tmp 157) (.tmp 152) rfl g (mf * 32) (idc xq).toArray rfl rfl (by rw [List.size_toArray, l1q]; exact HRTq.out.2.2.1) (by rw [List.size_toArray]; exact s1q) (by simpa using idc_one xq) ?_
                                        refine hK _ _ ?_
                                        clear hK K
                                        simp only [Act.put, List.getElem_toArray, List.getElem_cons_zero, List.getElem_cons_succ, List.setIfInBounds_toArray, List.set_cons_zero, List.set_cons_succ]
                                        refine wpAny_take (i := 14) (v := ?_) rfl (by kernel_rfl) (by kernel_rfl) (by kernel_rfl) (fun _ _ _ h => h) (Or.inl ⟨by rfl, ?hy14⟩) ?_
                                        case hy14 => intro w; go_simp; first | done | (with_reducible rfl)
                                        simp only [Act.put, List.getElem_toArray, List.getElem_cons_zero, List.getElem_cons_succ, List.setIfInBounds_toArray, List.set_cons_zero, List.set_cons_succ]
                                        refine wpAny_ready (rs := [15]) (by kernel_rfl) (by simp) ?_
                                        refine AllReady.cons rfl (fun K hK => ?_) AllReady.nil
                                        rw [if_pos (by rfl)]
                                        refine wp_store_mid 26 (.tmp 158) (.tmp 156) rfl g (mh * 32) (idc yq).toArray rfl rfl (by rw [List.size_toArray, l0q]; exact HRTq.out.2.2.2) (by rw [List.size_toArray]; exact s0q) (by simpa using idc_one yq) ?_
                                        refine hK _ _ ?_
                                        clear hK K
                                        simp only [Act.put, List.getElem_toArray, List.getElem_cons_zero, List.getElem_cons_succ, List.setIfInBounds_toArray, List.set_cons_zero, List.set_cons_succ]
                                        refine wpAny_done (by kernel_rfl) ?_ _
                                        go_wp2
                                        go_meet
                                        exact ⟨HSWq.out, by rw [sc_size, sc_size]; exact Nat.le_refl _⟩
                                    case rest =>
                                      have HSq := hide hcut.1
                                      have hgq : g < wc.heap.size := by have := hcut.2; have := hgh; omega
                                      skip
                                      clear hcut HSWq HRTq
                                      go_wp2
                                      go_roundw
                                      case rel => exact ⟨mf + 1, j2, Sort.swp dk mf mh, by omega, by omega, by omega, by go_num, by go_num, by rw [size_swp']; exact hdk, HSq.out, HG.out⟩
                                      case measure => simp [intOf] <;> omega
end Go.Proofs.Ybulkcgfi
