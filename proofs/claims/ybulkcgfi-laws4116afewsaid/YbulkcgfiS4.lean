import Derived.Test.YbulkcgfiS3
namespace Go.Proofs.Ybulkcgfi
open Go.RowKit
set_option linter.unusedVariables false
set_option linter.unusedSimpArgs false
set_option maxRecDepth 100000
set_option maxHeartbeats 4000000 in
theorem rev_any (g cap a b : Nat) (d : Array ID) (w : World) (h0 : SR w g d w) (hg : g < w.heap.size) (hab0 : a < b) (hb : b ≤ d.size) (hn : d.size ≤ 1024) :
    Calls Yba.prog 19 #[.slice (some ⟨g, 0, none⟩) d.size cap, .int .i64 a, .int .i64 b, .func (.func 8) #[] #[]] w fun e w' => e = .returned (.tuple #[]) ∧ SR w g (Sort.reverseRange d a b) w' := by
  have H0 := hide h0
  clear h0
  obtain ⟨b', hb'⟩ : ∃ b', b = b' + 1 := ⟨b - 1, by omega⟩
  have b1 : IntKind.i64.wrap ((b : Int) - 1) = b' := by rw [wrap_in _ (by omega) (by omega)]; omega
  have HBB := hide hb'
  clear hb'
  go_enter Yba.func19, Yba.ntmps19
  go_wp2_with fail
  go_loopw [8, 9] (fun iv jv wr => ∃ (i j : Nat) (dk : Array ID), 0 ≤ i ∧ i ≤ 2048 ∧ j < b ∧ iv = .int .i64 i ∧ jv = .int .i64 j ∧ dk.size = d.size ∧ SR w g dk wr ∧ Sort.reverseLoop i j dk = Sort.reverseRange d a b) (fun iv jv _ => (intOf jv - intOf iv).toNat)
  case atStart => have hb' := HBB.out; exact ⟨a, b', d, by omega, by omega, by omega, rfl, rfl, rfl, H0.out, by unfold Sort.reverseRange; rw [show b - 1 = b' by omega]⟩
  case round =>
    obtain ⟨i, j, dk, hi0, hi2, hjb, rfl, rfl, hdk, hS, hO⟩ := hrel
    have hgr : g < wr.heap.size := by have := hS.fw.size; omega
    by_cases hij : i < j
    · have i1 : (i : Int) < j := by omega
      have i2 := wrap_in ((i : Int) + 1) (by omega) (by omega)
      obtain ⟨j', hj'⟩ : ∃ j', j = j' + 1 := ⟨j - 1, by omega⟩
      have i3 : IntKind.i64.wrap ((j : Int) - 1) = j' := by rw [wrap_in _ (by omega) (by omega)]; omega
      have n3 : (j : Int) < d.size := by omega
      have n4 : (i : Int) < d.size := by omega
      have n5 : j < d.size := by omega
      have n6 : i < d.size := by omega
      have hSd := hS.below hgr ((Below.refl _ _).drew)
      have HSW := hide (hSd.swap (i := i) (j := j) (by omega) (by omega))
      have r1 := hSd.row j (by omega)
      have r0 := hSd.row i (by omega)
      have o1 := hSd.ok j (by omega)
      have o0 := hSd.ok i (by omega)
      have t0 := hSd.there (x := i) (by omega)
      have t1 := (hSd.store (i := i) (by omega) dk[j]! o1).there (x := j) (by simp; omega)
      obtain ⟨x, hx⟩ : ∃ x, x = dk[j]! := ⟨_, rfl⟩
      obtain ⟨y, hy⟩ : ∃ y, y = dk[i]! := ⟨_, rfl⟩
      rw [← hx] at r1 o1 t1
      rw [← hy] at r0 o0
      have s1 : (Yba.prog.info? 26).map (·.size) = some (idc x).length := by rw [idc_len, o1]; exact info26
      have s0 : (Yba.prog.info? 26).map (·.size) = some (idc y).length := by rw [idc_len, o0]; exact info26
      have l1 : (idc x).length = 32 := by rw [idc_len, o1]
      have l0 : (idc y).length = 32 := by rw [idc_len, o0]
      have HO : Hid (Sort.reverseLoop (i + 1) j' (Sort.swp dk i j) = Sort.reverseRange d a b) := ⟨by
        rw [Sort.reverseLoop, if_pos hij] at hO
        rw [← hO, show j - 1 = j' by omega]⟩
      have HX := hide (And.intro hx (And.intro hy hj'))
      have HRT := hide (And.intro r1 (And.intro r0 (And.intro t0 t1)))
      clear hS hO hSd hx hy hj' r1 r0 t0 t1
      go_upto_region 3 with fail
      refine wp_region_any (by kernel_rfl) ?_
      change wpAny _ _ _ _ _ _ _ (World.drew _)
      refine wpAny_take (i := 0) (v := ?v0) rfl (by kernel_rfl) (by kernel_rfl) (by kernel_rfl) (fun _ _ _ h => h) (Or.inl ⟨by rfl, ?hy0⟩) ?_
      case hy0 => intro w; go_simp; first | done | (with_reducible rfl)
      simp only [Act.put, List.getElem_toArray, List.getElem_cons_zero, List.getElem_cons_succ, List.setIfInBounds_toArray, List.set_cons_zero, List.set_cons_succ]
      refine wpAny_take (i := 1) (v := ?v1) rfl (by kernel_rfl) (by kernel_rfl) (by kernel_rfl) (fun _ _ _ h => h) (Or.inl ⟨by rfl, ?hy1⟩) ?_
      case hy1 => intro w; go_simp; first | done | (with_reducible rfl)
      simp only [Act.put, List.getElem_toArray, List.getElem_cons_zero, List.getElem_cons_succ, List.setIfInBounds_toArray, List.set_cons_zero, List.set_cons_succ]
      refine wpAny_take (i := 2) (v := ?v2) rfl (by kernel_rfl) (by kernel_rfl) (by kernel_rfl) (fun _ _ _ h => h) (Or.inl ⟨by rfl, ?hy2⟩) ?_
      case hy2 => intro w; go_simp; first | done | (with_reducible rfl)
      simp only [Act.put, List.getElem_toArray, List.getElem_cons_zero, List.getElem_cons_succ, List.setIfInBounds_toArray, List.set_cons_zero, List.set_cons_succ]
      refine wpAny_take (i := 3) (v := ?v3) rfl (by kernel_rfl) (by kernel_rfl) (by kernel_rfl) (fun _ _ _ h => h) (Or.inl ⟨by rfl, ?hy3⟩) ?_
      case hy3 => intro w; go_simp; first | done | (with_reducible rfl)
      simp only [Act.put, List.getElem_toArray, List.getElem_cons_zero, List.getElem_cons_succ, List.setIfInBounds_toArray, List.set_cons_zero, List.set_cons_succ]
      refine wpAny_take (i := 4) (v := ?v4) rfl (by kernel_rfl) (by kernel_rfl) (by kernel_rfl) (fun _ _ _ h => h) (Or.inl ⟨by rfl, ?hy4⟩) ?_
      case hy4 => intro w; go_simp; first | done | (with_reducible rfl)
      simp only [Act.put, List.getElem_toArray, List.getElem_cons_zero, List.getElem_cons_succ, List.setIfInBounds_toArray, List.set_cons_zero, List.set_cons_succ]
      refine wpAny_take (i := 5) (v := ?v5) rfl (by kernel_rfl) (by kernel_rfl) (by kernel_rfl) (fun _ _ _ h => h) (Or.inl ⟨by rfl, ?hy5⟩) ?_
      case hy5 => intro w; go_simp; first | done | (with_reducible rfl)
      simp only [Act.put, List.getElem_toArray, List.getElem_cons_zero, List.getElem_cons_succ, List.setIfInBounds_toArray, List.set_cons_zero, List.set_cons_succ]
      refine wpAny_take (i := 6) (v := ?v6) rfl (by kernel_rfl) (by kernel_rfl) (by kernel_rfl) (fun _ _ _ h => h) (Or.inl ⟨by rfl, ?hy6⟩) ?_
      case hy6 => intro w; go_simp; first | done | (with_reducible rfl)
      simp only [Act.put, List.getElem_toArray, List.getElem_cons_zero, List.getElem_cons_succ, List.setIfInBounds_toArray, List.set_cons_zero, List.set_cons_succ]
      refine wpAny_take (i := 8) (v := ?v8) rfl (by kernel_rfl) (by kernel_rfl) (by kernel_rfl) (fun _ _ _ h => h) (Or.inl ⟨by rfl, ?hy8⟩) ?_
      case hy8 => intro w; go_simp; first | done | (with_reducible rfl)
      simp only [Act.put, List.getElem_toArray, List.getElem_cons_zero, List.getElem_cons_succ, List.setIfInBounds_toArray, List.set_cons_zero, List.set_cons_succ]
      refine wpAny_take (i := 9) (v := ?v9) rfl (by kernel_rfl) (by kernel_rfl) (by kernel_rfl) (fun _ _ _ h => h) (Or.inl ⟨by rfl, ?hy9⟩) ?_
      case hy9 => intro w; go_simp; first | done | (with_reducible rfl)
      simp only [Act.put, List.getElem_toArray, List.getElem_cons_zero, List.getElem_cons_succ, List.setIfInBounds_toArray, List.set_cons_zero, List.set_cons_succ]
      refine wpAny_take (i := 10) (v := ?v10) rfl (by kernel_rfl) (by kernel_rfl) (by kernel_rfl) (fun _ _ _ h => h) (Or.inl ⟨by rfl, ?hy10⟩) ?_
      case hy10 => intro w; go_simp; first | done | (with_reducible rfl)
      simp only [Act.put, List.getElem_toArray, List.getElem_cons_zero, List.getElem_cons_succ, List.setIfInBounds_toArray, List.set_cons_zero, List.set_cons_succ]
      refine wpAny_ready (rs := [7, 11]) (by kernel_rfl) (by simp) ?_
      refine AllReady.cons rfl (fun K hK => ?_) (AllReady.cons rfl (fun K hK => ?_) AllReady.nil)
      · rw [if_pos (by rfl)]
        refine wp_load_mid 26 (.tmp 22) rfl g (j * 32) rfl (idc x) _ (HRT.out.1) Yba.underlying26 rfl s1 ?_
        refine hK _ _ ?_
        clear hK K
        simp only [Act.put, List.getElem_toArray, List.getElem_cons_zero, List.getElem_cons_succ, List.setIfInBounds_toArray, List.set_cons_zero, List.set_cons_succ]
        refine wpAny_ready (rs := [11]) (by kernel_rfl) (by simp) ?_
        refine AllReady.cons rfl (fun K hK => ?_) AllReady.nil
        rw [if_pos (by rfl)]
        refine wp_load_mid 26 (.tmp 26) rfl g (i * 32) rfl (idc y) _ (HRT.out.2.1) Yba.underlying26 rfl s0 ?_
        refine hK _ _ ?_
        clear hK K
        simp only [Act.put, List.getElem_toArray, List.getElem_cons_zero, List.getElem_cons_succ, List.setIfInBounds_toArray, List.set_cons_zero, List.set_cons_succ]
        refine wpAny_take (i := 12) (v := ?v12) rfl (by kernel_rfl) (by kernel_rfl) (by kernel_rfl) (fun _ _ _ h => h) (Or.inl ⟨by rfl, ?hy12⟩) ?_
        case hy12 => intro w; go_simp; first | done | (with_reducible rfl)
        simp only [Act.put, List.getElem_toArray, List.getElem_cons_zero, List.getElem_cons_succ, List.setIfInBounds_toArray, List.set_cons_zero, List.set_cons_succ]
        refine wpAny_ready (rs := [13]) (by kernel_rfl) (by simp) ?_
        refine AllReady.cons rfl (fun K hK => ?_) AllReady.nil
        rw [if_pos (by rfl)]
        refine wp_store_mid 26 (.tmp 28) (.tmp 23) rfl g (i * 32) (idc x).toArray rfl rfl (by rw [List.size_toArray, l1]; exact HRT.out.2.2.1) (by rw [List.size_toArray]; exact s1) (by simpa using idc_one x) ?_
        refine hK _ _ ?_
        clear hK K
        simp only [Act.put, List.getElem_toArray, List.getElem_cons_zero, List.getElem_cons_succ, List.setIfInBounds_toArray, List.set_cons_zero, List.set_cons_succ]
        refine wpAny_take (i := 14) (v := ?v14) rfl (by kernel_rfl) (by kernel_rfl) (by kernel_rfl) (fun _ _ _ h => h) (Or.inl ⟨by rfl, ?hy14⟩) ?_
        case hy14 => intro w; go_simp; first | done | (with_reducible rfl)
        simp only [Act.put, List.getElem_toArray, List.getElem_cons_zero, List.getElem_cons_succ, List.setIfInBounds_toArray, List.set_cons_zero, List.set_cons_succ]
        refine wpAny_ready (rs := [15]) (by kernel_rfl) (by simp) ?_
        refine AllReady.cons rfl (fun K hK => ?_) AllReady.nil
        rw [if_pos (by rfl)]
        refine wp_store_mid 26 (.tmp 29) (.tmp 27) rfl g (j * 32) (idc y).toArray rfl rfl (by rw [List.size_toArray, l0]; exact HRT.out.2.2.2) (by rw [List.size_toArray]; exact s0) (by simpa using idc_one y) ?_
        refine hK _ _ ?_
        clear hK K
        simp only [Act.put, List.getElem_toArray, List.getElem_cons_zero, List.getElem_cons_succ, List.setIfInBounds_toArray, List.set_cons_zero, List.set_cons_succ]
        refine wpAny_done (by kernel_rfl) ?_ _
        go_wp2
        go_roundw
        case rel => exact ⟨i + 1, j', Sort.swp dk i j, by omega, by omega, by have := HX.out.2.2; omega, by go_num, by go_num, by simp [Sort.swp, hdk], by
          have h := HSW.out
          rw [← HX.out.1, ← HX.out.2.1] at h
          exact h, HO.out⟩
        case measure => have := HX.out.2.2; simp [intOf]; omega
      · rw [if_pos (by rfl)]
        refine wp_load_mid 26 (.tmp 26) rfl g (i * 32) rfl (idc y) _ (HRT.out.2.1) Yba.underlying26 rfl s0 ?_
        refine hK _ _ ?_
        clear hK K
        simp only [Act.put, List.getElem_toArray, List.getElem_cons_zero, List.getElem_cons_succ, List.setIfInBounds_toArray, List.set_cons_zero, List.set_cons_succ]
        refine wpAny_ready (rs := [7]) (by kernel_rfl) (by simp) ?_
        refine AllReady.cons rfl (fun K hK => ?_) AllReady.nil
        rw [if_pos (by rfl)]
        refine wp_load_mid 26 (.tmp 22) rfl g (j * 32) rfl (idc x) _ (HRT.out.1) Yba.underlying26 rfl s1 ?_
        refine hK _ _ ?_
        clear hK K
        simp only [Act.put, List.getElem_toArray, List.getElem_cons_zero, List.getElem_cons_succ, List.setIfInBounds_toArray, List.set_cons_zero, List.set_cons_succ]
        refine wpAny_take (i := 12) (v := ?v12) rfl (by kernel_rfl) (by kernel_rfl) (by kernel_rfl) (fun _ _ _ h => h) (Or.inl ⟨by rfl, ?hy12⟩) ?_
        case hy12 => intro w; go_simp; first | done | (with_reducible rfl)
        simp only [Act.put, List.getElem_toArray, List.getElem_cons_zero, List.getElem_cons_succ, List.setIfInBounds_toArray, List.set_cons_zero, List.set_cons_succ]
        refine wpAny_ready (rs := [13]) (by kernel_rfl) (by simp) ?_
        refine AllReady.cons rfl (fun K hK => ?_) AllReady.nil
        rw [if_pos (by rfl)]
        refine wp_store_mid 26 (.tmp 28) (.tmp 23) rfl g (i * 32) (idc x).toArray rfl rfl (by rw [List.size_toArray, l1]; exact HRT.out.2.2.1) (by rw [List.size_toArray]; exact s1) (by simpa using idc_one x) ?_
        refine hK _ _ ?_
        clear hK K
        simp only [Act.put, List.getElem_toArray, List.getElem_cons_zero, List.getElem_cons_succ, List.setIfInBounds_toArray, List.set_cons_zero, List.set_cons_succ]
        refine wpAny_take (i := 14) (v := ?v14) rfl (by kernel_rfl) (by kernel_rfl) (by kernel_rfl) (fun _ _ _ h => h) (Or.inl ⟨by rfl, ?hy14⟩) ?_
        case hy14 => intro w; go_simp; first | done | (with_reducible rfl)
        simp only [Act.put, List.getElem_toArray, List.getElem_cons_zero, List.getElem_cons_succ, List.setIfInBounds_toArray, List.set_cons_zero, List.set_cons_succ]
        refine wpAny_ready (rs := [15]) (by kernel_rfl) (by simp) ?_
        refine AllReady.cons rfl (fun K hK => ?_) AllReady.nil
        rw [if_pos (by rfl)]
        refine wp_store_mid 26 (.tmp 29) (.tmp 27) rfl g (j * 32) (idc y).toArray rfl rfl (by rw [List.size_toArray, l0]; exact HRT.out.2.2.2) (by rw [List.size_toArray]; exact s0) (by simpa using idc_one y) ?_
        refine hK _ _ ?_
        clear hK K
        simp only [Act.put, List.getElem_toArray, List.getElem_cons_zero, List.getElem_cons_succ, List.setIfInBounds_toArray, List.set_cons_zero, List.set_cons_succ]
        refine wpAny_done (by kernel_rfl) ?_ _
        go_wp2
        go_roundw
        case rel => exact ⟨i + 1, j', Sort.swp dk i j, by omega, by omega, by have := HX.out.2.2; omega, by go_num, by go_num, by simp [Sort.swp, hdk], by
          have h := HSW.out
          rw [← HX.out.1, ← HX.out.2.1] at h
          exact h, HO.out⟩
        case measure => have := HX.out.2.2; simp [intOf]; omega
    · have i1 : ¬ (i : Int) < j := by omega
      have HE : Hid (SR w g (Sort.reverseRange d a b) wr) := ⟨by
        rw [Sort.reverseLoop, if_neg hij] at hO
        rw [← hO]
        exact hS⟩
      clear hS hO
      go_wp2
      go_end0
      exact ⟨rfl, HE.out⟩
end Go.Proofs.Ybulkcgfi
