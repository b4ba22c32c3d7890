import Derived.Test.YbulkcgfiS19
namespace Go.Proofs.Ybulkcgfi
open Go.RowKit
set_option linter.unusedVariables false
set_option linter.unusedSimpArgs false
set_option maxRecDepth 100000
/-- Both rows as they were. -/
structure CK (w : World) (h g : Nat) (d r : Array ID) (wr : World) : Prop where
  od : RO wr h d
  rd : RO wr g r
  bel : Below w.heap.size w wr
theorem CK.below {w : World} {h g : Nat} {d r : Array ID} {wr w' : World} (k : CK w h g d r wr) (hb : Below wr.heap.size wr w') : CK w h g d r w' :=
  ⟨k.od.below hb, k.rd.below hb, k.bel.trans (hb.mono k.bel.size)⟩
set_option maxHeartbeats 8000000 in
theorem check_any (h c0 g c1 : Nat) (d r : Array ID) (w : World) (hd : RO w h d) (hr : RO w g r) (hn : d.size ≤ 1024) (hcf : CF d r) :
    Calls Yba.prog 6 #[.slice (some ⟨h, 0, none⟩) d.size c0, .slice (some ⟨g, 0, none⟩) r.size c1] w fun e w' => e = .returned (.bool true) ∧ Below w.heap.size w w' := by
  have H0 : Hid (CK w h g d r w) := ⟨⟨hd, hr, Below.refl _ _⟩⟩
  have hle := hcf.le
  have HCF := hide hcf
  have z0 : ¬ (d.size : Int) < r.size := by omega
  have z00 : ¬ d.size < r.size := by omega
  clear hd hr hcf
  go_enter Yba.func6, Yba.ntmps6
  go_wp2_with fail
  go_loopw [5] (fun v wr => ∃ i : Nat, v = .int .i64 i ∧ 1 ≤ i ∧ i ≤ 1025 ∧ Hid (CK w h g d r wr)) (fun v _ => (1025 - intOf v).toNat)
  case atStart => exact ⟨1, rfl, Nat.le_refl _, by omega, H0⟩
  case round =>
    obtain ⟨i, rfl, hi1, hi2, HK⟩ := hrel
    by_cases hir : i < r.size
    · have z1 : (i : Int) < r.size := by omega
      obtain ⟨i', hi'⟩ : ∃ i', i' = i - 1 := ⟨_, rfl⟩
      have z2 : IntKind.i64.wrap ((i : Int) - 1) = i' := by rw [wrap_in _ (by omega) (by omega)]; omega
      have z3 := wrap_in ((i : Int) + 1) (by omega) (by omega)
      have z4 : i' < r.size := by omega
      have z5 : (i' : Int) < r.size := by omega
      have o1 := HK.out.rd.ok i' z4
      have o0 := HK.out.rd.ok i hir
      have r1 := HK.out.rd.row i' z4
      have r0 := HK.out.rd.row i hir
      have hlt := HCF.out.asc i' i (by omega) hir
      obtain ⟨x, hx⟩ : ∃ x, x = r[i']! := ⟨_, rfl⟩
      obtain ⟨y, hy⟩ : ∃ y, y = r[i]! := ⟨_, rfl⟩
      rw [← hx] at o1 r1 hlt
      rw [← hy] at o0 r0 hlt
      have s1 : (Yba.prog.info? 26).map (·.size) = some (idc x).length := by rw [idc_len, o1]; exact info26
      have s0 : (Yba.prog.info? 26).map (·.size) = some (idc y).length := by rw [idc_len, o0]; exact info26
      have HR := hide (And.intro r1 r0)
      have HLT := hide hlt
      have hgr := HK.out.rd.lt
      obtain ⟨W, rfl⟩ : ∃ W, W = wr := ⟨_, rfl⟩
      clear hi' hx hy r1 r0 hlt
      go_upto_region 6 with fail
      go_cut [29] (fun s wc => s = .bool false ∧ Below W.heap.size W wc)
      case first =>
        go_wp2_with fail
        refine wp_region_held_drew (S := fun w' => w'.rangeAt g (i' * 32) (idc x) ∧ w'.rangeAt g (i * 32) (idc y)) (by kernel_rfl) (R2 HR.out.1 HR.out.2 hgr ((Below.refl _ _).drew)) (fun hHeld => ?_)
        refine wpAnyH_take (i := 0) (v := ?_) rfl (by kernel_rfl) (by kernel_rfl) (by kernel_rfl) (fun _ _ _ h => h) (Or.inl ⟨by rfl, ?hy0⟩) hHeld ?_
        case hy0 => intro w hSw; go_simp; first | done | (with_reducible rfl)
        simp only [Act.put, List.getElem_toArray, List.getElem_cons_zero, List.getElem_cons_succ, List.setIfInBounds_toArray, List.set_cons_zero, List.set_cons_succ]
        refine wpAnyH_take (i := 1) (v := ?_) rfl (by kernel_rfl) (by kernel_rfl) (by kernel_rfl) (fun _ _ _ h => h) (Or.inl ⟨by rfl, ?hy1⟩) hHeld ?_
        case hy1 => intro w hSw; go_simp; first | done | (with_reducible rfl)
        simp only [Act.put, List.getElem_toArray, List.getElem_cons_zero, List.getElem_cons_succ, List.setIfInBounds_toArray, List.set_cons_zero, List.set_cons_succ]
        refine wpAnyH_take (i := 2) (v := ?_) rfl (by kernel_rfl) (by kernel_rfl) (by kernel_rfl) (fun _ _ _ h => h) (Or.inl ⟨by rfl, ?hy2⟩) hHeld ?_
        case hy2 => intro w hSw; go_simp; first | done | (with_reducible rfl)
        simp only [Act.put, List.getElem_toArray, List.getElem_cons_zero, List.getElem_cons_succ, List.setIfInBounds_toArray, List.set_cons_zero, List.set_cons_succ]
        refine wpAnyH_take (i := 3) (v := ?_) rfl (by kernel_rfl) (by kernel_rfl) (by kernel_rfl) (fun _ _ _ h => h) (Or.inl ⟨by rfl, ?hy3⟩) hHeld ?_
        case hy3 => intro w hSw; go_simp; first | done | (with_reducible rfl)
        simp only [Act.put, List.getElem_toArray, List.getElem_cons_zero, List.getElem_cons_succ, List.setIfInBounds_toArray, List.set_cons_zero, List.set_cons_succ]
        refine wpAnyH_take (i := 4) (v := _) rfl (by kernel_rfl) (by kernel_rfl) (by kernel_rfl) (fun _ _ _ h => h) (yieldsIf_load_mid (by rfl) 26 (.tmp 22) rfl g (i' * 32) rfl (idc x) _ (fun _ h => h.1) Yba.underlying26 rfl s1) hHeld ?_
        simp only [Act.put, List.getElem_toArray, List.getElem_cons_zero, List.getElem_cons_succ, List.setIfInBounds_toArray, List.set_cons_zero, List.set_cons_succ]
        refine wpAnyH_take (i := 5) (v := ?_) rfl (by kernel_rfl) (by kernel_rfl) (by kernel_rfl) (fun _ _ _ h => h) (Or.inl ⟨by rfl, ?hy5⟩) hHeld ?_
        case hy5 => intro w hSw; go_simp; first | done | (with_reducible rfl)
        simp only [Act.put, List.getElem_toArray, List.getElem_cons_zero, List.getElem_cons_succ, List.setIfInBounds_toArray, List.set_cons_zero, List.set_cons_succ]
        refine wpAnyH_take (i := 6) (v := ?_) rfl (by kernel_rfl) (by kernel_rfl) (by kernel_rfl) (fun _ _ _ h => h) (Or.inl ⟨by rfl, ?hy6⟩) hHeld ?_
        case hy6 => intro w hSw; go_simp; first | done | (with_reducible rfl)
        simp only [Act.put, List.getElem_toArray, List.getElem_cons_zero, List.getElem_cons_succ, List.setIfInBounds_toArray, List.set_cons_zero, List.set_cons_succ]
        refine wpAnyH_take (i := 7) (v := ?_) rfl (by kernel_rfl) (by kernel_rfl) (by kernel_rfl) (fun _ _ _ h => h) (Or.inl ⟨by rfl, ?hy7⟩) hHeld ?_
        case hy7 => intro w hSw; go_simp; first | done | (with_reducible rfl)
        simp only [Act.put, List.getElem_toArray, List.getElem_cons_zero, List.getElem_cons_succ, List.setIfInBounds_toArray, List.set_cons_zero, List.set_cons_succ]
        refine wpAnyH_take (i := 8) (v := _) rfl (by kernel_rfl) (by kernel_rfl) (by kernel_rfl) (fun _ _ _ h => h) (yieldsIf_load_mid (by rfl) 26 (.tmp 26) rfl g (i * 32) rfl (idc y) _ (fun _ h => h.2) Yba.underlying26 rfl s0) hHeld ?_
        simp only [Act.put, List.getElem_toArray, List.getElem_cons_zero, List.getElem_cons_succ, List.setIfInBounds_toArray, List.set_cons_zero, List.set_cons_succ]
        refine wpAnyH_ready (rs := [9]) (by kernel_rfl) (by simp) ?_
        refine AllReadyH.cons rfl (fun K hK => ?_) AllReadyH.nil
        rw [if_pos (by rfl)]
        go_simp
        refine (acmp_any x y _ o1 o0 HLT.out).mono ?_
        rintro e w5 ⟨rfl, hw5⟩; have HB5 := hide (un_drew hw5); clear hw5
        clear hHeld
        refine hK.out _ _ (R2 HR.out.1 HR.out.2 hgr HB5.out) (fun hHeld => ?_)
        clear hK K
        refine wpAnyH_take (i := 10) (v := ?_) rfl (by kernel_rfl) (by kernel_rfl) (by kernel_rfl) (fun _ _ _ h => h) (Or.inl ⟨by rfl, ?hy10⟩) hHeld ?_
        case hy10 => intro w hSw; go_simp; first | done | (with_reducible rfl)
        simp only [Act.put, List.getElem_toArray, List.getElem_cons_zero, List.getElem_cons_succ, List.setIfInBounds_toArray, List.set_cons_zero, List.set_cons_succ]
        refine wpAnyH_done (by kernel_rfl) ?_ _
        go_wp2
        go_meet
        exact ⟨by first | rfl | simp, HB5.out⟩
      case rest =>
        obtain ⟨hs, hbc⟩ := hcut
        subst hs
        have HK2 := hide (HK.out.below hbc)
        clear hbc
        go_wp2
        go_roundw
        case rel => exact ⟨i + 1, by go_num, by omega, by omega, HK2⟩
        case measure => simp [intOf] <;> omega
    · have z1 : ¬ (i : Int) < r.size := by omega
      clear hi1 hi2
      go_wp2_with fail
      go_loopw [6] (fun v wr => ∃ i : Nat, v = .int .i64 i ∧ i ≤ 1025 ∧ Hid (CK w h g d r wr)) (fun v _ => (1025 - intOf v).toNat)
      case atStart => exact ⟨0, rfl, by omega, HK⟩
      case round =>
        obtain ⟨j, rfl, hj2, HK2⟩ := hrel
        by_cases hjr : j < r.size
        · have y1 : (j : Int) < r.size := by omega
          have y2 := wrap_in ((j : Int) + 1) (by omega) (by omega)
          have o1 := HK2.out.rd.ok j hjr
          have r1 := HK2.out.rd.row j hjr
          have HIN := hide (HCF.out.sub j hjr)
          obtain ⟨x, hx⟩ : ∃ x, x = r[j]! := ⟨_, rfl⟩
          rw [← hx] at o1 r1 HIN
          have s1 : (Yba.prog.info? 26).map (·.size) = some (idc x).length := by rw [idc_len, o1]; exact info26
          have HR := hide r1
          have HC := hide (ain_any h c0 d x wr HK2.out.od o1 hn (by obtain ⟨q, h1, h2⟩ := HIN.out; exact ⟨q, h1, h2.symm⟩))
          clear hx r1
          go_wp2_with (first
            | (refine wpList_load_mid rfl 26 (.tmp 38) rfl g (j * 32) rfl (idc x) _ HR.out Yba.underlying26 rfl s1 ?_)
            | (go_at_call 11; refine HC.out.mono ?_; rintro e w1 ⟨rfl, hb1⟩; have HK3 := hide (HK2.out.below hb1); clear hb1))
          go_roundw
          case rel => exact ⟨j + 1, by go_num, by omega, HK3⟩
          case measure => simp [intOf] <;> omega
        · have y1 : ¬ (j : Int) < r.size := by omega
          clear hj2
          go_wp2_with fail
          go_loopw [7] (fun v wr => ∃ i : Nat, v = .int .i64 i ∧ i ≤ 1025 ∧ Hid (CK w h g d r wr)) (fun v _ => (1025 - intOf v).toNat)
          case atStart => exact ⟨0, rfl, by omega, HK2⟩
          case round =>
            obtain ⟨k, rfl, hk2, HK3⟩ := hrel
            by_cases hkr : k < d.size
            · have x1 : (k : Int) < d.size := by omega
              have x2 := wrap_in ((k : Int) + 1) (by omega) (by omega)
              have o1 := HK3.out.od.ok k hkr
              have r1 := HK3.out.od.row k hkr
              have HIN := hide (HCF.out.sup k hkr)
              obtain ⟨x, hx⟩ : ∃ x, x = d[k]! := ⟨_, rfl⟩
              rw [← hx] at o1 r1 HIN
              have s1 : (Yba.prog.info? 26).map (·.size) = some (idc x).length := by rw [idc_len, o1]; exact info26
              have HR := hide r1
              have HC := hide (ain_any g c1 r x wr HK3.out.rd o1 (by omega) HIN.out)
              clear hx r1
              go_wp2_with (first
                | (refine wpList_load_mid rfl 26 (.tmp 51) rfl h (k * 32) rfl (idc x) _ HR.out Yba.underlying26 rfl s1 ?_)
                | (go_at_call 11; refine HC.out.mono ?_; rintro e w1 ⟨rfl, hb1⟩; have HK4 := hide (HK3.out.below hb1); clear hb1))
              go_roundw
              case rel => exact ⟨k + 1, by go_num, by omega, HK4⟩
              case measure => simp [intOf] <;> omega
            · have x1 : ¬ (k : Int) < d.size := by omega
              go_wp2
              go_ret
              exact ⟨rfl, HK3.out.bel⟩
theorem check_nil (h : Nat) (w : World) : Calls Yba.prog 6 #[.slice (some ⟨h, 0, none⟩) 0 0, .slice none 0 0] w fun e w' => e = .returned (.bool true) ∧ w' = w := by
  go_enter Yba.func6, Yba.ntmps6
  go_wp2_with fail
  refine wp_loop_rounds 1 ?_
  rw [rounds_succ]
  go_wp2_with fail
  refine wp_loop_rounds 1 ?_
  rw [rounds_succ]
  go_wp2_with fail
  refine wp_loop_rounds 1 ?_
  rw [rounds_succ]
  go_wp2
  go_ret
  exact ⟨rfl, rfl⟩
end Go.Proofs.Ybulkcgfi
