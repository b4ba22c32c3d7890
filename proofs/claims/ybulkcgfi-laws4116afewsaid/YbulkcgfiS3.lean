import Derived.Test.YbulkcgfiS2
namespace Go.Proofs.Ybulkcgfi
open Go.RowKit
set_option linter.unusedVariables false
set_option linter.unusedSimpArgs false
set_option maxRecDepth 100000
theorem un_drew {w w' : World} (h : Below w.drew.heap.size w.drew w') : Below w.heap.size w w' := ⟨h.os, h.tape, h.output, h.size, h.block⟩
theorem bdrewN {n : Nat} {w : World} : Below w.heap.size w (w.drewN n) := ⟨rfl, rfl, rfl, Nat.le_refl _, fun _ _ => rfl⟩
theorem info26 : (Yba.prog.info? 26).map (·.size) = some 32 := by kernel_rfl
theorem idc_one (l : List UInt8) : ∀ v ∈ idc l, v.oneCell' = true := fun v hv => by
  obtain ⟨b, _, rfl⟩ := List.mem_map.1 hv
  rfl
theorem range_below {V w' : World} {g o : Nat} {cs : List Value} (h : V.rangeAt g o cs) (hg : g < V.heap.size) (hb : Below V.heap.size V w') : w'.rangeAt g o cs := fun j v hv => by rw [hb.cell (by exact hg)]; exact h j v hv
theorem ltStr_iff {a b : ID} : Sort.ltStr a b = true ↔ a < b := by simp [Sort.ltStr]
/-- Two elements of the row, compared. -/
theorem R2 {V w' : World} {g o o' : Nat} {cs cs' : List Value} (h : V.rangeAt g o cs) (h' : V.rangeAt g o' cs') (hg : g < V.heap.size) (hb : Below V.heap.size V w') : w'.rangeAt g o cs ∧ w'.rangeAt g o' cs' := ⟨range_below h hg hb, range_below h' hg hb⟩
theorem insInner_zero {d : Array ID} {a : Nat} : Sort.insInner Sort.ltStr a 0 d = d := by simp [Sort.insInner]
set_option maxHeartbeats 4000000 in
theorem isort_any (g cap a b : Nat) (d : Array ID) (w : World) (h0 : SR w g d w) (hg : g < w.heap.size) (hab0 : a ≤ b) (hb : b ≤ d.size) (hn : d.size ≤ 1024) :
    Calls Yba.prog 15 #[.slice (some ⟨g, 0, none⟩) d.size cap, .int .i64 a, .int .i64 b, .func (.func 8) #[] #[]] w fun e w' => e = .returned (.tuple #[]) ∧ SR w g (Sort.insertionSort Sort.ltStr d a b) w' := by
  have H0 := hide h0
  clear h0
  by_cases hab : a ≤ 1024
  · have a1 := wrap_in ((a : Int) + 1) (by omega) (by omega)
    go_enter Yba.func15, Yba.ntmps15
    go_wp2_with fail
    go_loopw [8] (fun iv wr => ∃ (i : Nat) (dk : Array ID), a + 1 ≤ i ∧ i ≤ 2048 ∧ iv = .int .i64 i ∧ dk.size = d.size ∧ SR w g dk wr ∧ Sort.insOuter Sort.ltStr a b i dk = Sort.insertionSort Sort.ltStr d a b) (fun iv _ => (b - intOf iv).toNat)
    case atStart => exact ⟨a + 1, d, by omega, by omega, by go_num, rfl, H0.out, rfl⟩
    case round =>
      obtain ⟨i, dk, hai, hi2, rfl, hdk, hS, hO⟩ := hrel
      have HS := hide (And.intro hS hO)
      clear hS hO
      by_cases hlt : i < b
      · have i1 : (i : Int) < b := by omega
        have i2 := wrap_in ((i : Int) + 1) (by omega) (by omega)
        go_wp2_with fail
        go_loopw [9] (fun jv wr => ∃ (j : Nat) (dj : Array ID), j ≤ i ∧ jv = .int .i64 j ∧ dj.size = d.size ∧ SR w g dj wr ∧ Sort.insInner Sort.ltStr a j dj = Sort.insInner Sort.ltStr a i dk) (fun jv _ => (intOf jv).toNat)
        case atStart => exact ⟨i, dk, Nat.le_refl _, rfl, hdk, HS.out.1, rfl⟩
        case round =>
          obtain ⟨j, dj, hji, rfl, hdj, hS, hI⟩ := hrel
          have hgr : g < wr.heap.size := by have := hS.fw.size; omega
          have HJ := hide (And.intro hS hI)
          clear hI
          have HD : Hid (Sort.insOuter Sort.ltStr a b (i + 1) (Sort.insInner Sort.ltStr a i dk) = Sort.insertionSort Sort.ltStr d a b) := ⟨by
            have := HS.out.2
            rw [Sort.insOuter, if_pos hlt] at this
            exact this⟩
          by_cases hja : a < j
          · obtain ⟨j', hj'⟩ : ∃ j', j = j' + 1 := ⟨j - 1, by omega⟩
            have r1 := hS.row j (by omega)
            have r0 := hS.row j' (by omega)
            have o1 := hS.ok j (by omega)
            have o0 := hS.ok j' (by omega)
            obtain ⟨x, hx⟩ : ∃ x, x = dj[j]! := ⟨_, rfl⟩
            obtain ⟨y, hy⟩ : ∃ y, y = dj[j']! := ⟨_, rfl⟩
            rw [← hx] at r1 o1
            rw [← hy] at r0 o0
            have n1 : (a : Int) < j := by omega
            have n2 : IntKind.i64.wrap ((j : Int) - 1) = j' := by rw [wrap_in _ (by omega) (by omega)]; omega
            have n3 : (j : Int) < d.size := by omega
            have n4 : (j' : Int) < d.size := by omega
            have n5 : j < d.size := by omega
            have n6 : j' < d.size := by omega
            have s1 : (Yba.prog.info? 26).map (·.size) = some (idc x).length := by rw [idc_len, o1]; exact info26
            have s0 : (Yba.prog.info? 26).map (·.size) = some (idc y).length := by rw [idc_len, o0]; exact info26
            have l1 : (idc x).length = 32 := by rw [idc_len, o1]
            have l0 : (idc y).length = 32 := by rw [idc_len, o0]
            have HX := hide (And.intro hx (And.intro hy hj'))
            have HR := hide (And.intro r1 r0)
            clear hS hx hy hj' r1 r0
            go_upto_region 4 with fail
            go_cut [34] (fun s wc => s = .bool (Sort.ltStr x y) ∧ Below wr.heap.size wr wc)
            case first =>
              go_wp2_with fail
              refine wp_region_held_drew (S := fun w' => w'.rangeAt g (j * 32) (idc x) ∧ w'.rangeAt g (j' * 32) (idc y)) (by kernel_rfl) (R2 HR.out.1 HR.out.2 hgr ((Below.refl _ _).drew)) (fun hHeld => ?_)
              refine wpAnyH_take (i := 0) (v := ?_) rfl (by kernel_rfl) (by kernel_rfl) (by kernel_rfl) (fun _ _ _ h => h) (Or.inl ⟨by rfl, ?hy0⟩) hHeld ?_
              case hy0 => intro w hSw; go_simp; first | done | (with_reducible rfl)
              simp only [Act.put, List.getElem_toArray, List.getElem_cons_zero, List.getElem_cons_succ, List.setIfInBounds_toArray, List.set_cons_zero, List.set_cons_succ]
              refine wpAnyH_take (i := 1) (v := ?_) rfl (by kernel_rfl) (by kernel_rfl) (by kernel_rfl) (fun _ _ _ h => h) (Or.inl ⟨by rfl, ?hy1⟩) hHeld ?_
              case hy1 => intro w hSw; go_simp; first | done | (with_reducible rfl)
              simp only [Act.put, List.getElem_toArray, List.getElem_cons_zero, List.getElem_cons_succ, List.setIfInBounds_toArray, List.set_cons_zero, List.set_cons_succ]
              refine wpAnyH_take (i := 2) (v := ?_) rfl (by kernel_rfl) (by kernel_rfl) (by kernel_rfl) (fun _ _ _ h => h) (Or.inl ⟨by rfl, ?hy2⟩) hHeld ?_
              case hy2 => intro w hSw; go_simp; first | done | (with_reducible rfl)
              simp only [Act.put, List.getElem_toArray, List.getElem_cons_zero, List.getElem_cons_succ, List.setIfInBounds_toArray, List.set_cons_zero, List.set_cons_succ]
              refine wpAnyH_take (i := 3) (v := ?_) rfl (by kernel_rfl) (by kernel_rfl) (by kernel_rfl) (fun _ _ _ h => h) (Or.inl ⟨by rfl, ?hy3⟩) hHeld ?_
              case hy3 => intro w hSw; go_simp; first | done | (with_reducible rfl)
              simp only [Act.put, List.getElem_toArray, List.getElem_cons_zero, List.getElem_cons_succ, List.setIfInBounds_toArray, List.set_cons_zero, List.set_cons_succ]
              refine wpAnyH_take (i := 4) (v := ?_) rfl (by kernel_rfl) (by kernel_rfl) (by kernel_rfl) (fun _ _ _ h => h) (Or.inl ⟨by rfl, ?hy4⟩) hHeld ?_
              case hy4 => intro w hSw; go_simp; first | done | (with_reducible rfl)
              simp only [Act.put, List.getElem_toArray, List.getElem_cons_zero, List.getElem_cons_succ, List.setIfInBounds_toArray, List.set_cons_zero, List.set_cons_succ]
              refine wpAnyH_take (i := 5) (v := ?_) rfl (by kernel_rfl) (by kernel_rfl) (by kernel_rfl) (fun _ _ _ h => h) (Or.inl ⟨by rfl, ?hy5⟩) hHeld ?_
              case hy5 => intro w hSw; go_simp; first | done | (with_reducible rfl)
              simp only [Act.put, List.getElem_toArray, List.getElem_cons_zero, List.getElem_cons_succ, List.setIfInBounds_toArray, List.set_cons_zero, List.set_cons_succ]
              refine wpAnyH_take (i := 6) (v := ?_) rfl (by kernel_rfl) (by kernel_rfl) (by kernel_rfl) (fun _ _ _ h => h) (Or.inl ⟨by rfl, ?hy6⟩) hHeld ?_
              case hy6 => intro w hSw; go_simp; first | done | (with_reducible rfl)
              simp only [Act.put, List.getElem_toArray, List.getElem_cons_zero, List.getElem_cons_succ, List.setIfInBounds_toArray, List.set_cons_zero, List.set_cons_succ]
              refine wpAnyH_take (i := 7) (v := ?_) rfl (by kernel_rfl) (by kernel_rfl) (by kernel_rfl) (fun _ _ _ h => h) (Or.inl ⟨by rfl, ?hy7⟩) hHeld ?_
              case hy7 => intro w hSw; go_simp; first | done | (with_reducible rfl)
              simp only [Act.put, List.getElem_toArray, List.getElem_cons_zero, List.getElem_cons_succ, List.setIfInBounds_toArray, List.set_cons_zero, List.set_cons_succ]
              refine wpAnyH_take (i := 8) (v := _) rfl (by kernel_rfl) (by kernel_rfl) (by kernel_rfl) (fun _ _ _ h => h) (yieldsIf_load_mid (by rfl) 26 (.tmp 25) rfl g (j * 32) rfl (idc x) _ (fun _ h => h.1) Yba.underlying26 rfl s1) hHeld ?_
              simp only [Act.put, List.getElem_toArray, List.getElem_cons_zero, List.getElem_cons_succ, List.setIfInBounds_toArray, List.set_cons_zero, List.set_cons_succ]
              refine wpAnyH_take (i := 9) (v := ?_) rfl (by kernel_rfl) (by kernel_rfl) (by kernel_rfl) (fun _ _ _ h => h) (Or.inl ⟨by rfl, ?hy9⟩) hHeld ?_
              case hy9 => intro w hSw; go_simp; first | done | (with_reducible rfl)
              simp only [Act.put, List.getElem_toArray, List.getElem_cons_zero, List.getElem_cons_succ, List.setIfInBounds_toArray, List.set_cons_zero, List.set_cons_succ]
              refine wpAnyH_take (i := 10) (v := ?_) rfl (by kernel_rfl) (by kernel_rfl) (by kernel_rfl) (fun _ _ _ h => h) (Or.inl ⟨by rfl, ?hy10⟩) hHeld ?_
              case hy10 => intro w hSw; go_simp; first | done | (with_reducible rfl)
              simp only [Act.put, List.getElem_toArray, List.getElem_cons_zero, List.getElem_cons_succ, List.setIfInBounds_toArray, List.set_cons_zero, List.set_cons_succ]
              refine wpAnyH_take (i := 11) (v := ?_) rfl (by kernel_rfl) (by kernel_rfl) (by kernel_rfl) (fun _ _ _ h => h) (Or.inl ⟨by rfl, ?hy11⟩) hHeld ?_
              case hy11 => intro w hSw; go_simp; first | done | (with_reducible rfl)
              simp only [Act.put, List.getElem_toArray, List.getElem_cons_zero, List.getElem_cons_succ, List.setIfInBounds_toArray, List.set_cons_zero, List.set_cons_succ]
              refine wpAnyH_take (i := 12) (v := ?_) rfl (by kernel_rfl) (by kernel_rfl) (by kernel_rfl) (fun _ _ _ h => h) (Or.inl ⟨by rfl, ?hy12⟩) hHeld ?_
              case hy12 => intro w hSw; go_simp; first | done | (with_reducible rfl)
              simp only [Act.put, List.getElem_toArray, List.getElem_cons_zero, List.getElem_cons_succ, List.setIfInBounds_toArray, List.set_cons_zero, List.set_cons_succ]
              refine wpAnyH_take (i := 13) (v := _) rfl (by kernel_rfl) (by kernel_rfl) (by kernel_rfl) (fun _ _ _ h => h) (yieldsIf_load_mid (by rfl) 26 (.tmp 30) rfl g (j' * 32) rfl (idc y) _ (fun _ h => h.2) Yba.underlying26 rfl s0) hHeld ?_
              simp only [Act.put, List.getElem_toArray, List.getElem_cons_zero, List.getElem_cons_succ, List.setIfInBounds_toArray, List.set_cons_zero, List.set_cons_succ]
              refine wpAnyH_ready (rs := [14]) (by kernel_rfl) (by simp) ?_
              refine AllReadyH.cons rfl (fun K hK => ?_) AllReadyH.nil
              rw [if_pos (by rfl)]
              go_simp
              refine (order_any x y _ o1 o0).mono ?_
              rintro e w5 ⟨⟨cc, rfl, hcc⟩, hw5⟩; have HB5 := hide (un_drew hw5); have HC := hide hcc; clear hw5 hcc
              clear hHeld
              refine hK.out _ _ (R2 HR.out.1 HR.out.2 hgr HB5.out) (fun hHeld => ?_)
              clear hK K
              refine wpAnyH_take (i := 15) (v := ?_) rfl (by kernel_rfl) (by kernel_rfl) (by kernel_rfl) (fun _ _ _ h => h) (Or.inl ⟨by rfl, ?hy15⟩) hHeld ?_
              case hy15 => intro w hSw; go_simp; first | done | (with_reducible rfl)
              simp only [Act.put, List.getElem_toArray, List.getElem_cons_zero, List.getElem_cons_succ, List.setIfInBounds_toArray, List.set_cons_zero, List.set_cons_succ]
              refine wpAnyH_take (i := 16) (v := ?_) rfl (by kernel_rfl) (by kernel_rfl) (by kernel_rfl) (fun _ _ _ h => h) (Or.inl ⟨by rfl, ?hy16⟩) hHeld ?_
              case hy16 => intro w hSw; go_simp; first | done | (with_reducible rfl)
              simp only [Act.put, List.getElem_toArray, List.getElem_cons_zero, List.getElem_cons_succ, List.setIfInBounds_toArray, List.set_cons_zero, List.set_cons_succ]
              refine wpAnyH_done (by kernel_rfl) ?_ _
              go_wp2
              go_meet
              exact ⟨by congr 1; unfold Sort.ltStr; exact decide_eq_decide.2 HC.out, HB5.out⟩
            case rest =>
              obtain ⟨hs34, hbc⟩ := hcut
              subst hs34
              have HS2 := hide (And.intro ((HJ.out.1.below hgr hbc).below (by have := hbc.size; omega) ((Below.refl _ _).drew)) HJ.out.2)
              have HS3 := hide (HJ.out.1.below hgr hbc)
              have hgc : g < wc.heap.size := by have := hbc.size; omega
              clear HJ HR hbc
              generalize hbb : Sort.ltStr x y = bb
              have HBB := hide hbb
              clear hbb
              cases bb with
              | true =>
                have HSW := hide (HS2.out.1.swap (i := j) (j := j') (by omega) (by omega))
                have r1 := HS2.out.1.row j (by omega)
                have r0 := HS2.out.1.row j' (by omega)
                rw [← HX.out.1] at r1
                rw [← HX.out.2.1] at r0
                have t1 := HS2.out.1.there (x := j) (by omega)
                have t0 := (HS2.out.1.store (i := j) (by omega) y o0).there (x := j') (by simp; omega)
                have HRT := hide (And.intro r1 (And.intro r0 (And.intro t1 t0)))
                clear r1 r0 t1 t0
                go_upto_region 6 with fail
                refine wp_region_any (by kernel_rfl) ?_
                change wpAny _ _ _ _ _ _ _ (World.drew _)
                refine wpAny_take (i := 0) (v := ?v0) rfl (by kernel_rfl) (by kernel_rfl) (by kernel_rfl) (fun _ _ _ h => h) (Or.inl ⟨by rfl, ?hy0⟩) ?_
                case hy0 => intro w; go_simp; first | done | (with_reducible rfl)
                simp only [Act.put, List.getElem_toArray, List.getElem_cons_zero, List.getElem_cons_succ, List.setIfInBounds_toArray, List.set_cons_zero, List.set_cons_succ]
                refine wpAny_take (i := 1) (v := ?v1) rfl (by kernel_rfl) (by kernel_rfl) (by kernel_rfl) (fun _ _ _ h => h) (Or.inl ⟨by rfl, ?hy1⟩) ?_
                case hy1 => intro w; go_simp; first | done | (with_reducible rfl)
                simp only [Act.put, List.getElem_toArray, List.getElem_cons_zero, List.getElem_cons_succ, List.setIfInBounds_toArray, List.set_cons_zero, List.set_cons_succ]
                refine wpAny_take (i := 2) (v := ?v2) rfl (by kernel_rfl) (by kernel_rfl) (by kernel_rfl) (fun _ _ _ h => h) (Or.inl ⟨by rfl, ?hy2⟩) ?_
                case hy2 => intro w; go_simp; first | done | (with_reducible rfl)
                simp only [Act.put, List.getElem_toArray, List.getElem_cons_zero, List.getElem_cons_succ, List.setIfInBounds_toArray, List.set_cons_zero, List.set_cons_succ]
                refine wpAny_take (i := 3) (v := ?v3) rfl (by kernel_rfl) (by kernel_rfl) (by kernel_rfl) (fun _ _ _ h => h) (Or.inl ⟨by rfl, ?hy3⟩) ?_
                case hy3 => intro w; go_simp; first | done | (with_reducible rfl)
                simp only [Act.put, List.getElem_toArray, List.getElem_cons_zero, List.getElem_cons_succ, List.setIfInBounds_toArray, List.set_cons_zero, List.set_cons_succ]
                refine wpAny_take (i := 4) (v := ?v4) rfl (by kernel_rfl) (by kernel_rfl) (by kernel_rfl) (fun _ _ _ h => h) (Or.inl ⟨by rfl, ?hy4⟩) ?_
                case hy4 => intro w; go_simp; first | done | (with_reducible rfl)
                simp only [Act.put, List.getElem_toArray, List.getElem_cons_zero, List.getElem_cons_succ, List.setIfInBounds_toArray, List.set_cons_zero, List.set_cons_succ]
                refine wpAny_take (i := 5) (v := ?v5) rfl (by kernel_rfl) (by kernel_rfl) (by kernel_rfl) (fun _ _ _ h => h) (Or.inl ⟨by rfl, ?hy5⟩) ?_
                case hy5 => intro w; go_simp; first | done | (with_reducible rfl)
                simp only [Act.put, List.getElem_toArray, List.getElem_cons_zero, List.getElem_cons_succ, List.setIfInBounds_toArray, List.set_cons_zero, List.set_cons_succ]
                refine wpAny_take (i := 6) (v := ?v6) rfl (by kernel_rfl) (by kernel_rfl) (by kernel_rfl) (fun _ _ _ h => h) (Or.inl ⟨by rfl, ?hy6⟩) ?_
                case hy6 => intro w; go_simp; first | done | (with_reducible rfl)
                simp only [Act.put, List.getElem_toArray, List.getElem_cons_zero, List.getElem_cons_succ, List.setIfInBounds_toArray, List.set_cons_zero, List.set_cons_succ]
                refine wpAny_take (i := 7) (v := ?v7) rfl (by kernel_rfl) (by kernel_rfl) (by kernel_rfl) (fun _ _ _ h => h) (Or.inl ⟨by rfl, ?hy7⟩) ?_
                case hy7 => intro w; go_simp; first | done | (with_reducible rfl)
                simp only [Act.put, List.getElem_toArray, List.getElem_cons_zero, List.getElem_cons_succ, List.setIfInBounds_toArray, List.set_cons_zero, List.set_cons_succ]
                refine wpAny_take (i := 8) (v := ?v8) rfl (by kernel_rfl) (by kernel_rfl) (by kernel_rfl) (fun _ _ _ h => h) (Or.inl ⟨by rfl, ?hy8⟩) ?_
                case hy8 => intro w; go_simp; first | done | (with_reducible rfl)
                simp only [Act.put, List.getElem_toArray, List.getElem_cons_zero, List.getElem_cons_succ, List.setIfInBounds_toArray, List.set_cons_zero, List.set_cons_succ]
                refine wpAny_take (i := 10) (v := ?v10) rfl (by kernel_rfl) (by kernel_rfl) (by kernel_rfl) (fun _ _ _ h => h) (Or.inl ⟨by rfl, ?hy10⟩) ?_
                case hy10 => intro w; go_simp; first | done | (with_reducible rfl)
                simp only [Act.put, List.getElem_toArray, List.getElem_cons_zero, List.getElem_cons_succ, List.setIfInBounds_toArray, List.set_cons_zero, List.set_cons_succ]
                refine wpAny_take (i := 11) (v := ?v11) rfl (by kernel_rfl) (by kernel_rfl) (by kernel_rfl) (fun _ _ _ h => h) (Or.inl ⟨by rfl, ?hy11⟩) ?_
                case hy11 => intro w; go_simp; first | done | (with_reducible rfl)
                simp only [Act.put, List.getElem_toArray, List.getElem_cons_zero, List.getElem_cons_succ, List.setIfInBounds_toArray, List.set_cons_zero, List.set_cons_succ]
                refine wpAny_take (i := 12) (v := ?v12) rfl (by kernel_rfl) (by kernel_rfl) (by kernel_rfl) (fun _ _ _ h => h) (Or.inl ⟨by rfl, ?hy12⟩) ?_
                case hy12 => intro w; go_simp; first | done | (with_reducible rfl)
                simp only [Act.put, List.getElem_toArray, List.getElem_cons_zero, List.getElem_cons_succ, List.setIfInBounds_toArray, List.set_cons_zero, List.set_cons_succ]
                refine wpAny_ready (rs := [9, 13]) (by kernel_rfl) (by simp) ?_
                refine AllReady.cons rfl (fun K hK => ?_) (AllReady.cons rfl (fun K hK => ?_) AllReady.nil)
                · rw [if_pos (by rfl)]
                  refine wp_load_mid 26 (.tmp 45) rfl g (j' * 32) rfl (idc y) _ (HRT.out.2.1) Yba.underlying26 rfl s0 ?_
                  refine hK _ _ ?_
                  clear hK K
                  simp only [Act.put, List.getElem_toArray, List.getElem_cons_zero, List.getElem_cons_succ, List.setIfInBounds_toArray, List.set_cons_zero, List.set_cons_succ]
                  refine wpAny_ready (rs := [13]) (by kernel_rfl) (by simp) ?_
                  refine AllReady.cons rfl (fun K hK => ?_) AllReady.nil
                  rw [if_pos (by rfl)]
                  refine wp_load_mid 26 (.tmp 49) rfl g (j * 32) rfl (idc x) _ (HRT.out.1) Yba.underlying26 rfl s1 ?_
                  refine hK _ _ ?_
                  clear hK K
                  simp only [Act.put, List.getElem_toArray, List.getElem_cons_zero, List.getElem_cons_succ, List.setIfInBounds_toArray, List.set_cons_zero, List.set_cons_succ]
                  refine wpAny_take (i := 14) (v := ?v14) rfl (by kernel_rfl) (by kernel_rfl) (by kernel_rfl) (fun _ _ _ h => h) (Or.inl ⟨by rfl, ?hy14⟩) ?_
                  case hy14 => intro w; go_simp; first | done | (with_reducible rfl)
                  simp only [Act.put, List.getElem_toArray, List.getElem_cons_zero, List.getElem_cons_succ, List.setIfInBounds_toArray, List.set_cons_zero, List.set_cons_succ]
                  refine wpAny_ready (rs := [15]) (by kernel_rfl) (by simp) ?_
                  refine AllReady.cons rfl (fun K hK => ?_) AllReady.nil
                  rw [if_pos (by rfl)]
                  refine wp_store_mid 26 (.tmp 51) (.tmp 46) rfl g (j * 32) (idc y).toArray rfl rfl (by rw [List.size_toArray, l0]; exact HRT.out.2.2.1) (by rw [List.size_toArray]; exact s0) (by simpa using idc_one y) ?_
                  refine hK _ _ ?_
                  clear hK K
                  simp only [Act.put, List.getElem_toArray, List.getElem_cons_zero, List.getElem_cons_succ, List.setIfInBounds_toArray, List.set_cons_zero, List.set_cons_succ]
                  refine wpAny_take (i := 16) (v := ?v16) rfl (by kernel_rfl) (by kernel_rfl) (by kernel_rfl) (fun _ _ _ h => h) (Or.inl ⟨by rfl, ?hy16⟩) ?_
                  case hy16 => intro w; go_simp; first | done | (with_reducible rfl)
                  simp only [Act.put, List.getElem_toArray, List.getElem_cons_zero, List.getElem_cons_succ, List.setIfInBounds_toArray, List.set_cons_zero, List.set_cons_succ]
                  refine wpAny_ready (rs := [17]) (by kernel_rfl) (by simp) ?_
                  refine AllReady.cons rfl (fun K hK => ?_) AllReady.nil
                  rw [if_pos (by rfl)]
                  refine wp_store_mid 26 (.tmp 52) (.tmp 50) rfl g (j' * 32) (idc x).toArray rfl rfl (by rw [List.size_toArray, l1]; exact HRT.out.2.2.2) (by rw [List.size_toArray]; exact s1) (by simpa using idc_one x) ?_
                  refine hK _ _ ?_
                  clear hK K
                  simp only [Act.put, List.getElem_toArray, List.getElem_cons_zero, List.getElem_cons_succ, List.setIfInBounds_toArray, List.set_cons_zero, List.set_cons_succ]
                  refine wpAny_done (by kernel_rfl) ?_ _
                  go_wp2
                  go_roundw
                  case rel => exact ⟨j', Sort.swp dj j j', by have := HX.out.2.2; omega, by go_num, by simp [Sort.swp, hdj], by
                    have h := HSW.out
                    rw [← HX.out.1, ← HX.out.2.1] at h
                    exact h, by
                    have h := HS2.out.2
                    have e := HX.out.2.2
                    rw [← h, e, Sort.insInner, ← e, ← HX.out.1, ← HX.out.2.1, HBB.out]
                    simp [e]
                    intro h2
                    omega⟩
                  case measure => have := HX.out.2.2; simp [intOf]; omega
                · rw [if_pos (by rfl)]
                  refine wp_load_mid 26 (.tmp 49) rfl g (j * 32) rfl (idc x) _ (HRT.out.1) Yba.underlying26 rfl s1 ?_
                  refine hK _ _ ?_
                  clear hK K
                  simp only [Act.put, List.getElem_toArray, List.getElem_cons_zero, List.getElem_cons_succ, List.setIfInBounds_toArray, List.set_cons_zero, List.set_cons_succ]
                  refine wpAny_ready (rs := [9]) (by kernel_rfl) (by simp) ?_
                  refine AllReady.cons rfl (fun K hK => ?_) AllReady.nil
                  rw [if_pos (by rfl)]
                  refine wp_load_mid 26 (.tmp 45) rfl g (j' * 32) rfl (idc y) _ (HRT.out.2.1) Yba.underlying26 rfl s0 ?_
                  refine hK _ _ ?_
                  clear hK K
                  simp only [Act.put, List.getElem_toArray, List.getElem_cons_zero, List.getElem_cons_succ, List.setIfInBounds_toArray, List.set_cons_zero, List.set_cons_succ]
                  refine wpAny_take (i := 14) (v := ?v14) rfl (by kernel_rfl) (by kernel_rfl) (by kernel_rfl) (fun _ _ _ h => h) (Or.inl ⟨by rfl, ?hy14⟩) ?_
                  case hy14 => intro w; go_simp; first | done | (with_reducible rfl)
                  simp only [Act.put, List.getElem_toArray, List.getElem_cons_zero, List.getElem_cons_succ, List.setIfInBounds_toArray, List.set_cons_zero, List.set_cons_succ]
                  refine wpAny_ready (rs := [15]) (by kernel_rfl) (by simp) ?_
                  refine AllReady.cons rfl (fun K hK => ?_) AllReady.nil
                  rw [if_pos (by rfl)]
                  refine wp_store_mid 26 (.tmp 51) (.tmp 46) rfl g (j * 32) (idc y).toArray rfl rfl (by rw [List.size_toArray, l0]; exact HRT.out.2.2.1) (by rw [List.size_toArray]; exact s0) (by simpa using idc_one y) ?_
                  refine hK _ _ ?_
                  clear hK K
                  simp only [Act.put, List.getElem_toArray, List.getElem_cons_zero, List.getElem_cons_succ, List.setIfInBounds_toArray, List.set_cons_zero, List.set_cons_succ]
                  refine wpAny_take (i := 16) (v := ?v16) rfl (by kernel_rfl) (by kernel_rfl) (by kernel_rfl) (fun _ _ _ h => h) (Or.inl ⟨by rfl, ?hy16⟩) ?_
                  case hy16 => intro w; go_simp; first | done | (with_reducible rfl)
                  simp only [Act.put, List.getElem_toArray, List.getElem_cons_zero, List.getElem_cons_succ, List.setIfInBounds_toArray, List.set_cons_zero, List.set_cons_succ]
                  refine wpAny_ready (rs := [17]) (by kernel_rfl) (by simp) ?_
                  refine AllReady.cons rfl (fun K hK => ?_) AllReady.nil
                  rw [if_pos (by rfl)]
                  refine wp_store_mid 26 (.tmp 52) (.tmp 50) rfl g (j' * 32) (idc x).toArray rfl rfl (by rw [List.size_toArray, l1]; exact HRT.out.2.2.2) (by rw [List.size_toArray]; exact s1) (by simpa using idc_one x) ?_
                  refine hK _ _ ?_
                  clear hK K
                  simp only [Act.put, List.getElem_toArray, List.getElem_cons_zero, List.getElem_cons_succ, List.setIfInBounds_toArray, List.set_cons_zero, List.set_cons_succ]
                  refine wpAny_done (by kernel_rfl) ?_ _
                  go_wp2
                  go_roundw
                  case rel => exact ⟨j', Sort.swp dj j j', by have := HX.out.2.2; omega, by go_num, by simp [Sort.swp, hdj], by
                    have h := HSW.out
                    rw [← HX.out.1, ← HX.out.2.1] at h
                    exact h, by
                    have h := HS2.out.2
                    have e := HX.out.2.2
                    rw [← h, e, Sort.insInner, ← e, ← HX.out.1, ← HX.out.2.1, HBB.out]
                    simp [e]
                    intro h2
                    omega⟩
                  case measure => have := HX.out.2.2; simp [intOf]; omega
              | false =>
                have HD2 : Hid (Sort.insOuter Sort.ltStr a b (i + 1) dj = Sort.insertionSort Sort.ltStr d a b) := ⟨by
                  have h := HS2.out.2
                  have e := HX.out.2.2
                  have h3 : Sort.insInner Sort.ltStr a j dj = dj := by
                    rw [e, Sort.insInner, ← e, ← HX.out.1, ← HX.out.2.1, HBB.out]
                    simp
                  rw [← HD.out, ← h, h3]⟩
                go_wp2
                go_roundw
                case rel => exact ⟨i + 1, dj, by omega, by omega, by go_num, hdj, HS3.out, HD2.out⟩
                case measure => simp [intOf]; omega
          · have n1 : ¬ (a : Int) < j := by omega
            have n2 : ¬ a < j := hja
            have n3 : decide (a < j) = false := by simp; omega
            have HD2 : Hid (Sort.insOuter Sort.ltStr a b (i + 1) dj = Sort.insertionSort Sort.ltStr d a b) := ⟨by
              have h := HJ.out.2
              have h3 : Sort.insInner Sort.ltStr a j dj = dj := by
                cases j with
                | zero => rfl
                | succ j' =>
                  rw [Sort.insInner]
                  simp
                  intro h2
                  omega
              rw [← HD.out, ← h, h3]⟩
            clear hS
            go_wp2_with fail
            go_quiet (fail)
            go_wp2
            go_roundw
            case rel => exact ⟨i + 1, dj, by omega, by omega, by go_num, hdj, HJ.out.1.below hgr bdrewN, HD2.out⟩
            case measure => simp [intOf]; omega
      · have i1 : ¬ (i : Int) < b := by omega
        have HE : Hid (SR w g (Sort.insertionSort Sort.ltStr d a b) wr) := ⟨by
          have h := HS.out.2
          rw [Sort.insOuter, if_neg hlt] at h
          rw [← h]
          exact HS.out.1⟩
        go_wp2
        go_end0
        exact ⟨rfl, HE.out⟩
  · omega
end Go.Proofs.Ybulkcgfi
