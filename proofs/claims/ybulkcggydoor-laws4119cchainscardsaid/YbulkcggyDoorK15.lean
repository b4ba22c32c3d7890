import Derived.Test.YbulkcggyDoorK12
import Derived.Test.YbulkcggyDoorK16
namespace Go.Proofs.YbulkcggyDoor
open Go.RowKit
set_option linter.unusedVariables false
set_option linter.unusedSectionVars false
set_option linter.unusedSimpArgs false
set_option maxRecDepth 100000
theorem ba_drew {Wb : World} {bb : Nat} {f : Nat → Int} {wr : World} {m p : Nat} {v : Value} (h : BA Wb bb f (wr.setCell ⟨bb, p, none⟩ v)) : BA Wb bb f ((wr.drewN m).setCell ⟨bb, p, none⟩ v) :=
  ⟨⟨h.fw.os, h.fw.tape, h.fw.output, h.fw.size, h.fw.block⟩, h.c, h.fz⟩
set_option maxHeartbeats 20000000 in
theorem law_any (its : Nat → It) (st : Int) (ia : Option Addr) (n icap : Nat) (w : World) (hok : ∀ i, i < n → (its i).ok) (hn : n ≤ 1024) (hs0 : 0 ≤ st) (hs1 : st ≤ 65535) (hrow : ∀ i, i < n → ∃ ib io, ia = some ⟨ib, io, none⟩ ∧ I6 w ib (io + i * 6) (its i)) :
    Calls Ybad.prog 3 #[.slice ia n icap, .int .u16 st] w fun e w' => e = .returned (.bool true) ∧ Below w.heap.size w w' := by
  have HR := hide (And.intro hok hrow)
  clear hok hrow
  have i1 : ¬ (1024 : Int) < n := by omega
  have i2 : st.tmod 300 = st % 300 := Int.tmod_eq_emod_of_nonneg hs0
  obtain ⟨stale, hstale⟩ : ∃ s, s = st % 300 := ⟨_, rfl⟩
  have l0 : 0 ≤ stale := by omega
  have l1 : stale < 300 := by omega
  have i3 := wrap_in st (by omega) (by omega)
  rw [← hstale] at i2
  have i4 := wrap_in (stale * 60000000000) (by omega) (by omega)
  have i5 := wrap_in stale (by omega) (by omega)
  have hadd := fun w => add_any 0 3600000000000000 3600000 w (by decide) (by decide) (wrap_in _ (by decide) (by decide)) (wrap_in _ (by decide) (by decide))
  rw [show (0 : Int) + 3600000 = 3600000 by omega] at hadd
  have HADD := hide hadd
  have hmk := fun w => mk34 w n hn
  clear hadd hstale
  obtain ⟨V, T, M, qb, hV⟩ := P8.mk' w n stale
  have HV := hide hV
  clear hV
  go_enter Ybad.func3, Ybad.ntmps3
  go_upto_region 8 with (first | (go_at_call 4; refine (HADD.out _).mono ?_; rintro e w1 ⟨rfl, rfl⟩))
  rw [← HV.out.eq, ← HV.out.eq', ← HV.out.eM, ← HV.out.eT]
  clear hmk HADD i1 i2 i3
  go_loopw [56] (fun iv wr => ∃ i : Nat, i ≤ n ∧ iv = .int .i64 i ∧ QW V qb n i its wr) (fun iv _ => (n - intOf iv).toNat)
  case atStart => exact ⟨0, by omega, rfl, QW.start its HV.out⟩
  case round =>
    obtain ⟨i, hin, rfl, hq⟩ := hrel
    obtain ⟨W0, hW0⟩ : ∃ W0, W0 = wr := ⟨_, rfl⟩
    subst hW0
    by_cases hlt : i < n
    · have i1 : (i : Int) < n := by omega
      have i2 := wrap_in ((i : Int) + 1) (by omega) (by omega)
      obtain ⟨ib, io, hia, hI⟩ := HR.out.2 i hlt
      subst hia
      have hoki := HR.out.1 i hlt
      have hsV := HV.out.size
      have lib : ib < w.heap.size := World.block_lt_of_cell? _ _ hI.c0
      have hIr : I6 W0 ib (io + i * 6) (its i) := by
        refine hI.same ?_
        rw [hq.fw.block ib (by omega) (by have := HV.out.eq'; omega)]
        exact HV.out.bel.block ib lib
      obtain ⟨c0, c1, c2, c3, c4, c5⟩ := hIr
      obtain ⟨a1, a2, a3, a4⟩ := (its i).arith hoki
      have k1 := (its i).kk_lt
      have k2 := (its i).ee_lt
      have k3 := (its i).ss_lt
      have k4 := (its i).rr_lt
      have w1 := wrap_in (its i).e (by have := hoki.e0; omega) (by have := hoki.e1; omega)
      have w2 := wrap_in ((its i).ee : Int) (by omega) (by omega)
      have w3 := wrap_u8 ((its i).kk : Int) (by omega) (by omega)
      have w4 := wrap_in ((its i).kk : Int) (by omega) (by omega)
      have w5 := wrap_in (((its i).kk : Int) + 1) (by omega) (by omega)
      have w6 := wrap_u8 ((its i).ss : Int) (by omega) (by omega)
      have w7 := wrap_in ((its i).ss : Int) (by omega) (by omega)
      have HQ := hide hq
      have HO := hide hoki
      clear hq hI hoki
      go_upto_region 10 with fail
      obtain ⟨V2, hV2, hI2, hb2⟩ := I6.alloc W0 (its i) 37
      rw [← hV2]
      obtain ⟨it, hit⟩ : ∃ x, x = W0.heap.size := ⟨_, rfl⟩
      rw [← hit]
      rw [← hit] at hI2
      have HI2 := hide hI2
      have HB2 := hide (And.intro hb2 hit)
      obtain ⟨d0, d1, d2, d3, d4, d5⟩ := hI2
      simp only [Nat.zero_add] at d1 d2 d3 d4 d5
      clear c0 c1 c2 c3 c4 c5 hV2 hb2 hit
      go_upto_region 15 with fail
      have HA := hide (And.intro a1 (And.intro a2 (And.intro a3 a4)))
      clear a1 a2 a3 w1 w2 w3 w4 w5 w6 w7 d1 d2 d3
      go_loopw [14, 15] (fun cv jv wr => ∃ j : Nat, j ≤ (its i).ss ∧ cv = .int .i64 ((((its i).kk : Int) + 1) * 10 ^ j) ∧ jv = .int .i64 j ∧ wr = V2) (fun _ jv _ => ((its i).ss - intOf jv).toNat)
      case atStart => exact ⟨0, by omega, by simp, rfl, rfl⟩
      case round =>
        obtain ⟨j, hj, rfl, rfl, rfl⟩ := hrel
        by_cases hjs : j < (its i).ss
        · have j1 : (j : Int) < (its i).ss := by omega
          have j2 := wrap_in ((j : Int) + 1) (by omega) (by omega)
          have j3 : IntKind.i64.wrap ((((its i).kk : Int) + 1) * 10 ^ j * 10) = (((its i).kk : Int) + 1) * 10 ^ (j + 1) := by
            rw [show (((its i).kk : Int) + 1) * 10 ^ j * 10 = (((its i).kk : Int) + 1) * 10 ^ (j + 1) by rw [Int.pow_succ, Int.mul_assoc]]
            rcases (by omega : j = 0 ∨ j = 1) with rfl | rfl
            · exact wrap_in _ (by omega) (by omega)
            · exact wrap_in _ (by omega) (by omega)
          go_wp2
          go_roundw
          case rel => exact ⟨j + 1, by omega, rfl, by go_num, trivial⟩
          case measure => simp [intOf]; omega
        · obtain rfl : j = (its i).ss := by omega
          have j1 : ¬ ((its i).ss : Int) < (its i).ss := by omega
          have hq0 := HO.out.q0
          have hq1 := HO.out.q1
          have m1 := wrap_in (its i).qt (by omega) (by omega)
          have m2 := wrap_in ((its i).qt * 60000000000) (by omega) (by omega)
          have m3 := wrap_in (((its i).ee : Int) - 1) (by omega) (by omega)
          have m4 := wrap_in ((((its i).ee : Int) - 1) * 3600000000000) (by omega) (by omega)
          have m5 := wrap_u8 ((its i).rr : Int) (by omega) (by omega)
          have m6 := wrap_in ((its i).rr : Int) (by omega) (by omega)
          have m7 := wrap_in (its i).bid (by have := HO.out.b0; omega) (by have := HO.out.b1; omega)
          have had1 := fun w => add_any 3600000 ((its i).qt * 60000000000) (60 * (its i).qt) w (by rw [show (its i).qt * 60000000000 = (60 * (its i).qt) * 1000000000 by omega]; exact Int.mul_tdiv_cancel _ (by decide)) (by rw [show (its i).qt * 60000000000 = (60 * (its i).qt) * 1000000000 by omega]; exact Int.mul_tmod_left _ _) (wrap_in _ (by omega) (by omega)) (wrap_in _ (by omega) (by omega))
          have had2 := fun w => add_any 3600000 ((((its i).ee : Int) - 1) * 3600000000000) (3600 * (((its i).ee : Int) - 1)) w (by rw [show (((its i).ee : Int) - 1) * 3600000000000 = (3600 * (((its i).ee : Int) - 1)) * 1000000000 by omega]; exact Int.mul_tdiv_cancel _ (by decide)) (by rw [show (((its i).ee : Int) - 1) * 3600000000000 = (3600 * (((its i).ee : Int) - 1)) * 1000000000 by omega]; exact Int.mul_tmod_left _ _) (wrap_in _ (by omega) (by omega)) (wrap_in _ (by omega) (by omega))
          rw [show (3600000 : Int) + 60 * (its i).qt = (its i).tm from rfl] at had1
          rw [show (3600000 : Int) + 3600 * (((its i).ee : Int) - 1) = xp (its i).ee by unfold xp; omega] at had2
          have HAD := hide (And.intro had1 had2)
          have a4 := HA.out.2.2.2
          have lT : T < V.heap.size := World.block_lt_of_cell? _ _ HV.out.t.c0
          have hTq : T ≠ qb ∧ it ≠ qb ∧ qb < W0.heap.size := by
            have h1 := HV.out.eT; have h2 := HV.out.eq'; have h3 := HB2.out.2; have h4 := HQ.out.fw.size; have h5 := HV.out.size
            omega
          have HT2 : Hid (T3 wr T 3600000) := ⟨by
            have c : ∀ o, W0.cell? ⟨T, o, none⟩ = V.cell? ⟨T, o, none⟩ := fun o => HQ.out.fw.cell (by exact lT) hTq.1
            have h := HV.out.t
            exact T3.below ⟨by rw [c]; exact h.c0, by rw [c]; exact h.c1, by rw [c]; exact h.c2⟩ HB2.out.1⟩
          obtain ⟨t0, t1, t2⟩ := HT2.out
          have lT2 : T < wr.heap.size := World.block_lt_of_cell? _ _ t0
          have li2 : it < wr.heap.size := World.block_lt_of_cell? _ _ d0
          have HQT := hide hTq
          clear hTq lT HA hj hjs t0 t1 t2 d0 d4 d5 hq0 hq1 k1 k2 k3 k4 l0 l1
          go_upto_region 18 with fail
          refine wp_region_held_drew (S := (fun w' => w'.cell? ⟨T, 0, none⟩ = some (.int .u64 0) ∧ w'.cell? ⟨T, 1, none⟩ = some (.int .i64 3600000) ∧ w'.cell? ⟨T, 2, none⟩ = some (.pointer none) ∧ w'.cell? ⟨it, 0, none⟩ = some (.int .i8 (its i).qt) ∧ w'.cell? ⟨it, 4, none⟩ = some (.int .u8 (its i).r) ∧ w'.cell? ⟨it, 5, none⟩ = some (.int .i8 (its i).bid))) (by kernel_rfl) (S13k HT2.out HI2.out (KT.refl _ _ _).drew) (fun hHeld => ?_)
          refine wpAnyH_take (i := 0) (v := ?_) rfl (by kernel_rfl) (by kernel_rfl) (by kernel_rfl) (fun _ _ _ h => h) (Or.inl ⟨by rfl, ?hy0⟩) hHeld ?_
          case hy0 => intro w hSw; obtain ⟨s1, s2, s3, s4, s5, s6⟩ := hSw; go_simp; first | done | (with_reducible rfl)
          simp only [Act.put, List.getElem_toArray, List.getElem_cons_zero, List.getElem_cons_succ, List.setIfInBounds_toArray, List.set_cons_zero, List.set_cons_succ]
          refine wpAnyH_take (i := 1) (v := ?_) rfl (by kernel_rfl) (by kernel_rfl) (by kernel_rfl) (fun _ _ _ h => h) (Or.inl ⟨by rfl, ?hy1⟩) hHeld ?_
          case hy1 => intro w hSw; obtain ⟨s1, s2, s3, s4, s5, s6⟩ := hSw; go_simp; first | done | (with_reducible rfl)
          simp only [Act.put, List.getElem_toArray, List.getElem_cons_zero, List.getElem_cons_succ, List.setIfInBounds_toArray, List.set_cons_zero, List.set_cons_succ]
          refine wpAnyH_take (i := 2) (v := ?_) rfl (by kernel_rfl) (by kernel_rfl) (by kernel_rfl) (fun _ _ _ h => h) (Or.inl ⟨by rfl, ?hy2⟩) hHeld ?_
          case hy2 => intro w hSw; obtain ⟨s1, s2, s3, s4, s5, s6⟩ := hSw; go_simp; first | done | (with_reducible rfl)
          simp only [Act.put, List.getElem_toArray, List.getElem_cons_zero, List.getElem_cons_succ, List.setIfInBounds_toArray, List.set_cons_zero, List.set_cons_succ]
          refine wpAnyH_take (i := 3) (v := ?_) rfl (by kernel_rfl) (by kernel_rfl) (by kernel_rfl) (fun _ _ _ h => h) (Or.inl ⟨by rfl, ?hy3⟩) hHeld ?_
          case hy3 => intro w hSw; obtain ⟨s1, s2, s3, s4, s5, s6⟩ := hSw; go_simp; first | done | (with_reducible rfl)
          simp only [Act.put, List.getElem_toArray, List.getElem_cons_zero, List.getElem_cons_succ, List.setIfInBounds_toArray, List.set_cons_zero, List.set_cons_succ]
          refine wpAnyH_take (i := 4) (v := ?_) rfl (by kernel_rfl) (by kernel_rfl) (by kernel_rfl) (fun _ _ _ h => h) (Or.inl ⟨by rfl, ?hy4⟩) hHeld ?_
          case hy4 => intro w hSw; obtain ⟨s1, s2, s3, s4, s5, s6⟩ := hSw; go_simp; first | done | (with_reducible rfl)
          simp only [Act.put, List.getElem_toArray, List.getElem_cons_zero, List.getElem_cons_succ, List.setIfInBounds_toArray, List.set_cons_zero, List.set_cons_succ]
          refine wpAnyH_take (i := 5) (v := ?_) rfl (by kernel_rfl) (by kernel_rfl) (by kernel_rfl) (fun _ _ _ h => h) (Or.inl ⟨by rfl, ?hy5⟩) hHeld ?_
          case hy5 => intro w hSw; obtain ⟨s1, s2, s3, s4, s5, s6⟩ := hSw; go_simp; first | done | (with_reducible rfl)
          simp only [Act.put, List.getElem_toArray, List.getElem_cons_zero, List.getElem_cons_succ, List.setIfInBounds_toArray, List.set_cons_zero, List.set_cons_succ]
          refine wpAnyH_take (i := 6) (v := ?_) rfl (by kernel_rfl) (by kernel_rfl) (by kernel_rfl) (fun _ _ _ h => h) (Or.inl ⟨by rfl, ?hy6⟩) hHeld ?_
          case hy6 => intro w hSw; obtain ⟨s1, s2, s3, s4, s5, s6⟩ := hSw; go_simp; first | done | (with_reducible rfl)
          simp only [Act.put, List.getElem_toArray, List.getElem_cons_zero, List.getElem_cons_succ, List.setIfInBounds_toArray, List.set_cons_zero, List.set_cons_succ]
          refine wpAnyH_take (i := 8) (v := ?_) rfl (by kernel_rfl) (by kernel_rfl) (by kernel_rfl) (fun _ _ _ h => h) (Or.inl ⟨by rfl, ?hy8⟩) hHeld ?_
          case hy8 => intro w hSw; obtain ⟨s1, s2, s3, s4, s5, s6⟩ := hSw; go_simp; first | done | (with_reducible rfl)
          simp only [Act.put, List.getElem_toArray, List.getElem_cons_zero, List.getElem_cons_succ, List.setIfInBounds_toArray, List.set_cons_zero, List.set_cons_succ]
          refine wpAnyH_take (i := 9) (v := ?_) rfl (by kernel_rfl) (by kernel_rfl) (by kernel_rfl) (fun _ _ _ h => h) (Or.inl ⟨by rfl, ?hy9⟩) hHeld ?_
          case hy9 => intro w hSw; obtain ⟨s1, s2, s3, s4, s5, s6⟩ := hSw; go_simp; first | done | (with_reducible rfl)
          simp only [Act.put, List.getElem_toArray, List.getElem_cons_zero, List.getElem_cons_succ, List.setIfInBounds_toArray, List.set_cons_zero, List.set_cons_succ]
          refine wpAnyH_take (i := 10) (v := ?_) rfl (by kernel_rfl) (by kernel_rfl) (by kernel_rfl) (fun _ _ _ h => h) (Or.inl ⟨by rfl, ?hy10⟩) hHeld ?_
          case hy10 => intro w hSw; obtain ⟨s1, s2, s3, s4, s5, s6⟩ := hSw; go_simp; first | done | (with_reducible rfl)
          simp only [Act.put, List.getElem_toArray, List.getElem_cons_zero, List.getElem_cons_succ, List.setIfInBounds_toArray, List.set_cons_zero, List.set_cons_succ]
          refine wpAnyH_take (i := 11) (v := ?_) rfl (by kernel_rfl) (by kernel_rfl) (by kernel_rfl) (fun _ _ _ h => h) (Or.inl ⟨by rfl, ?hy11⟩) hHeld ?_
          case hy11 => intro w hSw; obtain ⟨s1, s2, s3, s4, s5, s6⟩ := hSw; go_simp; first | done | (with_reducible rfl)
          simp only [Act.put, List.getElem_toArray, List.getElem_cons_zero, List.getElem_cons_succ, List.setIfInBounds_toArray, List.set_cons_zero, List.set_cons_succ]
          refine wpAnyH_take (i := 13) (v := ?_) rfl (by kernel_rfl) (by kernel_rfl) (by kernel_rfl) (fun _ _ _ h => h) (Or.inl ⟨by rfl, ?hy13⟩) hHeld ?_
          case hy13 => intro w hSw; obtain ⟨s1, s2, s3, s4, s5, s6⟩ := hSw; go_simp; first | done | (with_reducible rfl)
          simp only [Act.put, List.getElem_toArray, List.getElem_cons_zero, List.getElem_cons_succ, List.setIfInBounds_toArray, List.set_cons_zero, List.set_cons_succ]
          refine wpAnyH_take (i := 14) (v := ?_) rfl (by kernel_rfl) (by kernel_rfl) (by kernel_rfl) (fun _ _ _ h => h) (Or.inl ⟨by rfl, ?hy14⟩) hHeld ?_
          case hy14 => intro w hSw; obtain ⟨s1, s2, s3, s4, s5, s6⟩ := hSw; go_simp; first | done | (with_reducible rfl)
          simp only [Act.put, List.getElem_toArray, List.getElem_cons_zero, List.getElem_cons_succ, List.setIfInBounds_toArray, List.set_cons_zero, List.set_cons_succ]
          refine wpAnyH_take (i := 15) (v := ?_) rfl (by kernel_rfl) (by kernel_rfl) (by kernel_rfl) (fun _ _ _ h => h) (Or.inl ⟨by rfl, ?hy15⟩) hHeld ?_
          case hy15 => intro w hSw; obtain ⟨s1, s2, s3, s4, s5, s6⟩ := hSw; go_simp; first | done | (with_reducible rfl)
          simp only [Act.put, List.getElem_toArray, List.getElem_cons_zero, List.getElem_cons_succ, List.setIfInBounds_toArray, List.set_cons_zero, List.set_cons_succ]
          refine wpAnyH_take (i := 16) (v := ?_) rfl (by kernel_rfl) (by kernel_rfl) (by kernel_rfl) (fun _ _ _ h => h) (Or.inl ⟨by rfl, ?hy16⟩) hHeld ?_
          case hy16 => intro w hSw; obtain ⟨s1, s2, s3, s4, s5, s6⟩ := hSw; go_simp; first | done | (with_reducible rfl)
          simp only [Act.put, List.getElem_toArray, List.getElem_cons_zero, List.getElem_cons_succ, List.setIfInBounds_toArray, List.set_cons_zero, List.set_cons_succ]
          refine wpAnyH_take (i := 17) (v := ?_) rfl (by kernel_rfl) (by kernel_rfl) (by kernel_rfl) (fun _ _ _ h => h) (Or.inl ⟨by rfl, ?hy17⟩) hHeld ?_
          case hy17 => intro w hSw; obtain ⟨s1, s2, s3, s4, s5, s6⟩ := hSw; go_simp; first | done | (with_reducible rfl)
          simp only [Act.put, List.getElem_toArray, List.getElem_cons_zero, List.getElem_cons_succ, List.setIfInBounds_toArray, List.set_cons_zero, List.set_cons_succ]
          refine wpAnyH_take (i := 18) (v := ?_) rfl (by kernel_rfl) (by kernel_rfl) (by kernel_rfl) (fun _ _ _ h => h) (Or.inl ⟨by rfl, ?hy18⟩) hHeld ?_
          case hy18 => intro w hSw; obtain ⟨s1, s2, s3, s4, s5, s6⟩ := hSw; go_simp; first | done | (with_reducible rfl)
          simp only [Act.put, List.getElem_toArray, List.getElem_cons_zero, List.getElem_cons_succ, List.setIfInBounds_toArray, List.set_cons_zero, List.set_cons_succ]
          refine wpAnyH_take (i := 19) (v := ?_) rfl (by kernel_rfl) (by kernel_rfl) (by kernel_rfl) (fun _ _ _ h => h) (Or.inl ⟨by rfl, ?hy19⟩) hHeld ?_
          case hy19 => intro w hSw; obtain ⟨s1, s2, s3, s4, s5, s6⟩ := hSw; go_simp; first | done | (with_reducible rfl)
          simp only [Act.put, List.getElem_toArray, List.getElem_cons_zero, List.getElem_cons_succ, List.setIfInBounds_toArray, List.set_cons_zero, List.set_cons_succ]
          refine wpAnyH_take (i := 21) (v := ?_) rfl (by kernel_rfl) (by kernel_rfl) (by kernel_rfl) (fun _ _ _ h => h) (Or.inl ⟨by rfl, ?hy21⟩) hHeld ?_
          case hy21 => intro w hSw; obtain ⟨s1, s2, s3, s4, s5, s6⟩ := hSw; go_simp; first | done | (with_reducible rfl)
          simp only [Act.put, List.getElem_toArray, List.getElem_cons_zero, List.getElem_cons_succ, List.setIfInBounds_toArray, List.set_cons_zero, List.set_cons_succ]
          refine wpAnyH_take (i := 22) (v := ?_) rfl (by kernel_rfl) (by kernel_rfl) (by kernel_rfl) (fun _ _ _ h => h) (Or.inl ⟨by rfl, ?hy22⟩) hHeld ?_
          case hy22 => intro w hSw; obtain ⟨s1, s2, s3, s4, s5, s6⟩ := hSw; go_simp; first | done | (with_reducible rfl)
          simp only [Act.put, List.getElem_toArray, List.getElem_cons_zero, List.getElem_cons_succ, List.setIfInBounds_toArray, List.set_cons_zero, List.set_cons_succ]
          refine wpAnyH_take (i := 23) (v := ?_) rfl (by kernel_rfl) (by kernel_rfl) (by kernel_rfl) (fun _ _ _ h => h) (Or.inl ⟨by rfl, ?hy23⟩) hHeld ?_
          case hy23 => intro w hSw; obtain ⟨s1, s2, s3, s4, s5, s6⟩ := hSw; go_simp; first | done | (with_reducible rfl)
          simp only [Act.put, List.getElem_toArray, List.getElem_cons_zero, List.getElem_cons_succ, List.setIfInBounds_toArray, List.set_cons_zero, List.set_cons_succ]
          refine wpAnyH_take (i := 24) (v := ?_) rfl (by kernel_rfl) (by kernel_rfl) (by kernel_rfl) (fun _ _ _ h => h) (Or.inl ⟨by rfl, ?hy24⟩) hHeld ?_
          case hy24 => intro w hSw; obtain ⟨s1, s2, s3, s4, s5, s6⟩ := hSw; go_simp; first | done | (with_reducible rfl)
          simp only [Act.put, List.getElem_toArray, List.getElem_cons_zero, List.getElem_cons_succ, List.setIfInBounds_toArray, List.set_cons_zero, List.set_cons_succ]
          refine wpAnyH_take (i := 25) (v := ?_) rfl (by kernel_rfl) (by kernel_rfl) (by kernel_rfl) (fun _ _ _ h => h) (Or.inl ⟨by rfl, ?hy25⟩) hHeld ?_
          case hy25 => intro w hSw; obtain ⟨s1, s2, s3, s4, s5, s6⟩ := hSw; go_simp; first | done | (with_reducible rfl)
          simp only [Act.put, List.getElem_toArray, List.getElem_cons_zero, List.getElem_cons_succ, List.setIfInBounds_toArray, List.set_cons_zero, List.set_cons_succ]
          refine wpAnyH_take (i := 26) (v := ?_) rfl (by kernel_rfl) (by kernel_rfl) (by kernel_rfl) (fun _ _ _ h => h) (Or.inl ⟨by rfl, ?hy26⟩) hHeld ?_
          case hy26 => intro w hSw; obtain ⟨s1, s2, s3, s4, s5, s6⟩ := hSw; go_simp; first | done | (with_reducible rfl)
          simp only [Act.put, List.getElem_toArray, List.getElem_cons_zero, List.getElem_cons_succ, List.setIfInBounds_toArray, List.set_cons_zero, List.set_cons_succ]
          refine wpAnyH_take (i := 27) (v := ?_) rfl (by kernel_rfl) (by kernel_rfl) (by kernel_rfl) (fun _ _ _ h => h) (Or.inl ⟨by rfl, ?hy27⟩) hHeld ?_
          case hy27 => intro w hSw; obtain ⟨s1, s2, s3, s4, s5, s6⟩ := hSw; go_simp; first | done | (with_reducible rfl)
          simp only [Act.put, List.getElem_toArray, List.getElem_cons_zero, List.getElem_cons_succ, List.setIfInBounds_toArray, List.set_cons_zero, List.set_cons_succ]
          refine wpAnyH_ready (rs := [7]) (by kernel_rfl) (by simp) ?_
          refine AllReadyH.cons rfl (fun K hK => ?_) AllReadyH.nil
          rw [if_pos (by rfl)]
          go_simp
          refine (HAD.out.1 _).mono ?_
          rintro e w' ⟨rfl, rfl⟩
          clear hHeld
          refine hK.out _ _ (S13k HT2.out HI2.out (by repeat (first | exact KT.refl _ _ _ | with_reducible refine KT.drew ?_ | with_reducible refine KT.alloc ?_ lT2 li2 _))) (fun hHeld => ?_)
          clear hK K
          refine wpAnyH_ready (rs := [12]) (by kernel_rfl) (by simp) ?_
          refine AllReadyH.cons rfl (fun K hK => ?_) AllReadyH.nil
          rw [if_pos (by rfl)]
          go_simp
          refine (HAD.out.2 _).mono ?_
          rintro e w' ⟨rfl, rfl⟩
          clear hHeld
          refine hK.out _ _ (S13k HT2.out HI2.out (by repeat (first | exact KT.refl _ _ _ | with_reducible refine KT.drew ?_ | with_reducible refine KT.alloc ?_ lT2 li2 _))) (fun hHeld => ?_)
          clear hK K
          refine wpAnyH_take (i := 20) (v := ?_) rfl (by kernel_rfl) (by kernel_rfl) (by kernel_rfl) (fun _ _ _ h => h) (Or.inl ⟨by rfl, ?hy20⟩) hHeld ?_
          case hy20 => intro w hSw; obtain ⟨s1, s2, s3, s4, s5, s6⟩ := hSw; go_simp; first | done | (with_reducible rfl)
          simp only [Act.put, List.getElem_toArray, List.getElem_cons_zero, List.getElem_cons_succ, List.setIfInBounds_toArray, List.set_cons_zero, List.set_cons_succ]
          refine wpAnyH_take (i := 28) (v := ?_) rfl (by kernel_rfl) (by kernel_rfl) (by kernel_rfl) (fun _ _ _ h => h) (Or.inl ⟨by rfl, ?hy28⟩) hHeld ?_
          case hy28 => intro w hSw; obtain ⟨s1, s2, s3, s4, s5, s6⟩ := hSw; go_simp; first | done | (with_reducible rfl)
          simp only [Act.put, List.getElem_toArray, List.getElem_cons_zero, List.getElem_cons_succ, List.setIfInBounds_toArray, List.set_cons_zero, List.set_cons_succ]
          refine wpAnyH_take (i := 29) (v := ?_) rfl (by kernel_rfl) (by kernel_rfl) (by kernel_rfl) (fun _ _ _ h => h) (Or.inl ⟨by rfl, ?hy29⟩) hHeld ?_
          case hy29 => intro w hSw; obtain ⟨s1, s2, s3, s4, s5, s6⟩ := hSw; go_simp; first | done | (with_reducible rfl)
          simp only [Act.put, List.getElem_toArray, List.getElem_cons_zero, List.getElem_cons_succ, List.setIfInBounds_toArray, List.set_cons_zero, List.set_cons_succ]
          obtain ⟨W1, hW1⟩ : ∃ W1, W1 = (((wr.alloc (.cells #[.int .u64 0, .int .i64 (its i).tm, .pointer none] 27)).alloc (.cells #[.int .u64 0, .int .i64 (its i).tm, .pointer none] 27)).drew.alloc (.cells #[.int .u64 0, .int .i64 (xp (its i).ee), .pointer none] 27)).alloc (.cells #[.int .u64 0, .int .i64 (xp (its i).ee), .pointer none] 27) := ⟨_, rfl⟩
          have hb1 : Below wr.heap.size wr W1 := by rw [hW1]; repeat (first | exact Below.refl _ _ | refine Below.drew ?_ | refine Below.alloc ?_ (by simp +arith) _)
          rw [← hW1]
          rw [← hW1] at hHeld
          clear hW1
          have hb0 : Below W0.heap.size W0 W1 := HB2.out.1.trans (hb1.mono HB2.out.1.size)
          have hst := store_q W1 qb (i * 14) (its i) i (fun j hj => by
            rw [hb0.cell (by exact HQT.out.2.2)]
            exact HQ.out.ex _ (by omega)) (fun j => by rw [hb0.frozen (by exact HQT.out.2.2)]; exact HQ.out.fz j)
          have HQ2 := hide (HQ.out.put hlt hb0 HQT.out.2.2)
          refine wpAnyH_ready (rs := [30]) (by kernel_rfl) (by simp) ?_
          refine AllReadyH.cons rfl (fun K hK => ?_) AllReadyH.nil
          rw [if_pos (by rfl)]
          refine wp_store_run 42 (.tmp 111) (.tmp 110) rfl ⟨qb, i * 14, none⟩ rfl _ rfl hst ?_
          refine hK.out _ _ (S13k HT2.out HI2.out ⟨by rw [put_other qb _ _ _ _ HQT.out.1]; exact hb1.block _ lT2, by rw [put_other qb _ _ _ _ HQT.out.2.1]; exact hb1.block _ li2, by rw [put_size]; exact hb1.size⟩) (fun hHeld => ?_)
          clear hK K hst
          simp only [Act.put, List.getElem_toArray, List.getElem_cons_zero, List.getElem_cons_succ, List.setIfInBounds_toArray, List.set_cons_zero, List.set_cons_succ]
          refine wpAnyH_done (by kernel_rfl) ?_ _
          clear hHeld
          go_wp2
          go_roundw
          case rel => exact ⟨i + 1, by omega, by go_num, HQ2.out⟩
          case measure => simp [intOf]; omega
    · obtain rfl : i = n := by omega
      have i1 : ¬ (i : Int) < i := by omega
      have hsV := HV.out.size
      have e1 := HV.out.eT
      have e2 := HV.out.eM
      have e3 := HV.out.eq'
      have hfs := hq.fw.size
      have cT : ∀ o, W0.cell? ⟨T, o, none⟩ = V.cell? ⟨T, o, none⟩ := fun o => hq.fw.cell (by show T < V.heap.size; omega) (by show ¬ T = qb; omega)
      have cM : ∀ o, W0.cell? ⟨M, o, none⟩ = V.cell? ⟨M, o, none⟩ := fun o => hq.fw.cell (by show M < V.heap.size; omega) (by show ¬ M = qb; omega)
      have t0 : W0.cell? ⟨T, 0, none⟩ = some (.int .u64 0) := by rw [cT]; exact HV.out.t.c0
      have t1 : W0.cell? ⟨T, 1, none⟩ = some (.int .i64 3600000) := by rw [cT]; exact HV.out.t.c1
      have t2 : W0.cell? ⟨T, 2, none⟩ = some (.pointer none) := by rw [cT]; exact HV.out.t.c2
      have m0 : W0.cell? ⟨M, 0, none⟩ = some (.int .i64 (stale * 60000000000)) := by rw [cM]; exact HV.out.m0
      have m1 : W0.cell? ⟨M, 1, none⟩ = some (.int .i64 0) := by rw [cM]; exact HV.out.m1
      have m2 : W0.cell? ⟨M, 2, none⟩ = some (.int .i64 0) := by rw [cM]; exact HV.out.m2
      have HCH := hide (chains_any its stale i qb W0 HR.out.1 hn hq.row l0 l1)
      have HW0 : Hid (Below w.heap.size w W0) := ⟨HV.out.bel.trans ⟨hq.fw.os, hq.fw.tape, hq.fw.output, hq.fw.size, fun g hg => hq.fw.block g (by omega) (by show ¬ g = qb; omega)⟩⟩
      clear cT cM e1 e2 e3 hfs hsV hq HV
      go_upto_region 23 with (first | (go_at_call 5; refine HCH.out.mono ?_; rintro e w1 ⟨g, k, cap, p, rfl, hbw, hk3, hsrt, hper, hchn⟩; have HC1 := hide (And.intro hbw (And.intro hk3 (And.intro hsrt (And.intro hper hchn)))); clear hbw hk3 hsrt hper hchn))
      obtain ⟨Wb, bb, hP9⟩ := P9.mk' w1
      rw [← hP9.eq, ← hP9.ebb]
      have HP9 := hide hP9
      clear hP9 HCH t0 t1 t2 m0 m1 m2
      go_loopw [18] (fun av wr => ∃ (a : Nat) (f : Nat → Int), a ≤ 5 ∧ av = .int .i64 a ∧ BA Wb bb f wr ∧ NegTo f (a * 6)) (fun av _ => (5 - intOf av).toNat)
      case atStart => exact ⟨0, _, by omega, rfl, HP9.out.ba, fun x hx => by omega⟩
      case round =>
        obtain ⟨a, f, ha, rfl, hB, hN⟩ := hrel
        have HB := hide (And.intro hB hN)
        clear hB hN
        by_cases hlt : a < 5
        · have j1 : (a : Int) < 5 := by omega
          have j2 := wrap_in ((a : Int) + 1) (by omega) (by omega)
          go_upto_region 26 with fail
          go_loopw [19] (fun bv wr => ∃ (b : Nat) (f : Nat → Int), b ≤ 3 ∧ bv = .int .i64 b ∧ BA Wb bb f wr ∧ NegTo f (a * 6 + b * 2)) (fun bv _ => (3 - intOf bv).toNat)
          case atStart => exact ⟨0, f, by omega, rfl, HB.out.1, HB.out.2⟩
          case round =>
            clear HB
            obtain ⟨b, f, hb, rfl, hB, hN⟩ := hrel
            have HB := hide (And.intro hB hN)
            clear hB hN
            by_cases hlt2 : b < 3
            · have j3 : (b : Int) < 3 := by omega
              have j4 := wrap_in ((b : Int) + 1) (by omega) (by omega)
              go_upto_region 29 with fail
              go_loopw [20] (fun cv wr => ∃ (c : Nat) (f : Nat → Int), c ≤ 2 ∧ cv = .int .i64 c ∧ BA Wb bb f wr ∧ NegTo f (a * 6 + b * 2 + c)) (fun cv _ => (2 - intOf cv).toNat)
              case atStart => exact ⟨0, f, by omega, rfl, HB.out.1, HB.out.2⟩
              case round =>
                clear HB
                obtain ⟨c, f, hc, rfl, hB, hN⟩ := hrel
                by_cases hlt3 : c < 2
                · have j5 : (c : Int) < 2 := by omega
                  have j6 := wrap_in ((c : Int) + 1) (by omega) (by omega)
                  have hcell := hB.c (a * 6 + b * 2 + c) (by omega)
                  have hfz := hB.fz (a * 6 + b * 2 + c)
                  have HB2 := hide (And.intro (hB.set (a * 6 + b * 2 + c) (by omega) (-1)) hN.step)
                  clear hB hN
                  go_wp2
                  go_roundw
                  case rel => exact ⟨c + 1, _, by omega, by go_num, HB2.out.1, HB2.out.2⟩
                  case measure => simp [intOf]; omega
                · have j5 : ¬ (c : Int) < 2 := by omega
                  have HB2 : Hid (BA Wb bb f wr ∧ NegTo f (a * 6 + (b + 1) * 2)) := ⟨hB, by rw [show a * 6 + (b + 1) * 2 = a * 6 + b * 2 + c by omega]; exact hN⟩
                  clear hB hN
                  go_wp2
                  go_roundw
                  case rel => exact ⟨b + 1, f, by omega, by go_num, HB2.out⟩
                  case measure => simp [intOf]; omega
            · have j3 : ¬ (b : Int) < 3 := by omega
              have HB2 : Hid (BA Wb bb f wr ∧ NegTo f ((a + 1) * 6)) := ⟨HB.out.1, by rw [show (a + 1) * 6 = a * 6 + b * 2 by omega]; exact HB.out.2⟩
              clear HB
              go_wp2
              go_roundw
              case rel => exact ⟨a + 1, f, by omega, by go_num, HB2.out⟩
              case measure => simp [intOf]; omega
        · obtain rfl : a = 5 := by omega
          have j1 : ¬ (5 : Int) < 5 := by omega
          have HTB : Hid (BA Wb bb f wr ∧ Tab its 0 f) := ⟨HB.out.1, Tab.zero (by have := HB.out.2; exact this)⟩
          have HI : Hid (∀ x, x < i → ∀ wr, Fw (fun g => g = bb) Wb wr → ∃ ib io, ia = some ⟨ib, io, none⟩ ∧ I6 wr ib (io + x * 6) (its x)) := ⟨fun x hx wr hf => by
            obtain ⟨ib, io, h1, h2⟩ := HR.out.2 x hx
            have lib : ib < w.heap.size := World.block_lt_of_cell? _ _ h2.c0
            refine ⟨ib, io, h1, h2.same ?_⟩
            have s1 := HW0.out.size
            have s2 := HC1.out.1.size
            have s3 := HP9.out.bel.size
            have s4 := HP9.out.ebb
            rw [hf.block ib (by omega) (by omega), HP9.out.bel.block ib (by omega), HC1.out.1.block ib (by omega), HW0.out.block ib lib]⟩
          clear HB ha hlt
          go_upto_region 33 with fail
          go_loopw [137] (fun xv wr => ∃ (x : Nat) (f : Nat → Int), x ≤ i ∧ xv = .int .i64 x ∧ BA Wb bb f wr ∧ Tab its x f) (fun xv _ => (i - intOf xv).toNat)
          case atStart => exact ⟨0, f, by omega, rfl, HTB.out⟩
          case round =>
            clear HTB
            obtain ⟨x, f, hx, rfl, hB, hTb⟩ := hrel
            obtain ⟨W3, hW3⟩ : ∃ W3, W3 = wr := ⟨_, rfl⟩
            subst hW3
            by_cases hlt : x < i
            · have j2 : (x : Int) < i := by omega
              have j3 := wrap_in ((x : Int) + 1) (by omega) (by omega)
              obtain ⟨ib, io, hia, hI⟩ := HI.out x hlt W3 hB.fw
              subst hia
              obtain ⟨c0, c1, c2, c3, c4, c5⟩ := hI
              have hoki := HR.out.1 x hlt
              obtain ⟨a1, a2, a3, a4⟩ := (its x).arith hoki
              have k1 := (its x).kk_lt
              have k2 := (its x).ee_lt
              have k4 := (its x).rr_lt
              have w1 := wrap_in (its x).e (by have := hoki.e0; omega) (by have := hoki.e1; omega)
              have w2 := wrap_in ((its x).ee : Int) (by omega) (by omega)
              have w3 := wrap_u8 ((its x).kk : Int) (by omega) (by omega)
              have w4 := wrap_in ((its x).kk : Int) (by omega) (by omega)
              have w5 := wrap_u8 ((its x).rr : Int) (by omega) (by omega)
              have w6 := wrap_in ((its x).rr : Int) (by omega) (by omega)
              have HBT := hide (And.intro hB hTb)
              clear hB hTb hoki
              go_upto_region 35 with fail
              obtain ⟨V2, hV2, hI2, hb2⟩ := I6.alloc W3 (its x) 37
              rw [← hV2]
              obtain ⟨it, hit⟩ : ∃ x, x = W3.heap.size := ⟨_, rfl⟩
              rw [← hit]
              rw [← hit] at hI2
              have HB2 := hide (HBT.out.1.below hb2)
              obtain ⟨d0, d1, d2, d3, d4, d5⟩ := hI2
              simp only [Nat.zero_add] at d1 d2 d3 d4 d5
              have HTx := hide HBT.out.2
              clear c0 c1 c2 c3 c4 c5 hV2 hb2 hit HBT
              by_cases hqt : 0 < (its x).qt
              · go_wp2
                go_roundw
                case rel => exact ⟨x + 1, f, by omega, by go_num, HB2.out, HTx.out.same (best_skip (by unfold It.elig; simp; omega))⟩
                case measure => simp [intOf]; omega
              · by_cases hee : (its x).ee < 2
                · have e1 : ((its x).ee : Int) < 2 := by omega
                  go_wp2
                  go_roundw
                  case rel => exact ⟨x + 1, f, by omega, by go_num, HB2.out, HTx.out.same (best_skip (by unfold It.elig; simp; omega))⟩
                  case measure => simp [intOf]; omega
                · have e1 : ¬ ((its x).ee : Int) < 2 := by omega
                  have hel : (its x).elig = true := by unfold It.elig; simp; omega
                  have hcell : V2.cell? ⟨bb, (its x).ee * 6 + (its x).kk * 2 + (its x).rr, none⟩ = some (.int .i64 (bi its x (its x).key)) := by
                    have h := HTx.out _ _ _ k2 k1 k4
                    unfold kx at h
                    rw [HB2.out.c _ (by omega)]
                    exact congrArg (fun z => some (Value.int .i64 z)) h
                  cases hbst : best its x (its x).key with
                  | none =>
                    have hbi : bi its x (its x).key = -1 := by unfold bi; rw [hbst]
                    rw [hbi] at hcell
                    have h2 : Hid (∀ j, best its x (its x).key = some j → (its j).qt ≤ (its x).qt) := ⟨fun j hj => by rw [hbst] at hj; cases hj⟩
                    clear hbi hbst
                    have HBS := hide (And.intro (HB2.out.set (kx (its x).key) (by unfold kx It.key; simp only; omega) (x : Int)) (HTx.out.take hel h2.out))
                    have hcell2 := HB2.out.c (kx (its x).key) (by unfold kx It.key; simp only; omega)
                    have hfz2 := HB2.out.fz (kx (its x).key)
                    unfold kx It.key at hcell2 hfz2
                    simp only at hcell2 hfz2
                    go_upto_region 41 with fail
                    go_quiet (fail)
                    go_wp2
                    go_roundw
                    case rel => exact ⟨x + 1, _, by omega, by go_num, ba_drew HBS.out.1, HBS.out.2⟩
                    case measure => simp [intOf]; omega
                  | some j =>
                    have hbi : bi its x (its x).key = (j : Int) := by unfold bi; rw [hbst]
                    rw [hbi] at hcell
                    have hjx := (best_some hbst).1
                    obtain ⟨ib', io', hia', hIj⟩ := HI.out j (by omega) V2 HB2.out.fw
                    simp only [Option.some.injEq, Addr.mk.injEq, and_true] at hia'
                    obtain ⟨rfl, rfl⟩ := hia'
                    have q0 := hIj.c0
                    have n1 : ((j : Int) < 0) = False := by simp
                    have n2 : (j : Int) < i := by omega
                    have n3 : j < i := by omega
                    have n4 : decide ((j : Int) < 0) = false := by simp
                    by_cases hle : (its j).qt ≤ (its x).qt
                    · have h2 : Hid (∀ j', best its x (its x).key = some j' → (its j').qt ≤ (its x).qt) := ⟨fun j' hj' => by rw [hbst] at hj'; injection hj' with hj'; subst hj'; exact hle⟩
                      have hd : decide ((its j).qt ≤ (its x).qt) = true := by simp [hle]
                      clear hbi hbst hIj
                      have HBS := hide (And.intro (HB2.out.set (kx (its x).key) (by unfold kx It.key; simp only; omega) (x : Int)) (HTx.out.take hel h2.out))
                      have hcell2 := HB2.out.c (kx (its x).key) (by unfold kx It.key; simp only; omega)
                      have hfz2 := HB2.out.fz (kx (its x).key)
                      unfold kx It.key at hcell2 hfz2
                      simp only at hcell2 hfz2
                      go_upto_region 41 with fail
                      go_quiet (fail)
                      go_wp2
                      go_roundw
                      case rel => exact ⟨x + 1, _, by omega, by go_num, ba_drew HBS.out.1, HBS.out.2⟩
                      case measure => simp [intOf]; omega
                    · have hd : decide ((its j).qt ≤ (its x).qt) = false := by simp [hle]
                      have HLV := hide (HTx.out.same (best_leave hbst (by omega)))
                      clear hbi hbst hIj
                      go_upto_region 41 with fail
                      go_quiet (fail)
                      go_wp2
                      go_roundw
                      case rel => exact ⟨x + 1, f, by omega, by go_num, HB2.out.below bdrewN, HLV.out⟩
                      case measure => simp [intOf]; omega
            · obtain rfl : x = i := by omega
              have j2 : ¬ (x : Int) < x := by omega
              have HF : Hid (BA Wb bb f W3 ∧ Tab its x f) := ⟨hB, hTb⟩
              clear hB hTb hx hlt
              go_upto_region 46 with fail
              go_loopw [27, 28] (fun nv ev wr => ∃ m e : Nat, 2 ≤ e ∧ e ≤ 5 ∧ m ≤ k ∧ nv = .int .i64 m ∧ ev = .int .i64 e ∧ (∀ y, y < k → (p y < e ↔ y < m)) ∧ Below W3.heap.size W3 wr) (fun _ ev _ => (5 - intOf ev).toNat)
              case atStart => exact ⟨0, 2, by omega, by omega, by omega, rfl, rfl, fun y hy => by
                obtain ⟨κ, h1, h2, h3⟩ := (HC1.out.2.2.2.1 (p y)).1 ⟨y, hy, rfl⟩
                obtain ⟨j, hj⟩ := Option.isSome_iff_exists.1 h2
                have h4 := best_some hj
                have h5 : 2 ≤ (its j).ee := by have := h4.2.1; unfold It.elig at this; simp at this; exact this.2
                have h6 : (its j).ee = κ.1 := by rw [← h4.2.2]; rfl
                omega, Below.refl _ _⟩
              case round =>
                obtain ⟨m, e, he2, he5, hmk, rfl, rfl, hpm, hbw⟩ := hrel
                have HM := hide (And.intro hpm hbw)
                clear hpm hbw
                by_cases hlt : e < 5
                · have e1 : (e : Int) < 5 := by omega
                  have e2 := wrap_in ((e : Int) + 1) (by omega) (by omega)
                  have e3 := wrap_in ((m : Int) + 1) (by omega) (by have := HC1.out.2.1; omega)
                  go_upto_region 50 with fail
                  go_loopw [29, 30] (fun wv kv wr => ∃ kk : Nat, kk ≤ 3 ∧ kv = .int .i64 kk ∧ wr.ownsRow W3.heap.size 3 1 wv (kw its x stale e (kk * 2)).length (wvals its x (kw its x stale e (kk * 2))) ∧ Below W3.heap.size W3 wr) (fun _ kv _ => (3 - intOf kv).toNat)
                  case atStart => exact ⟨0, by omega, rfl, World.ownsRow_nil _ _ _ _, HM.out.2⟩
                  case round =>
                    obtain ⟨kk, hkk, rfl, hown, hbw⟩ := hrel
                    have HO := hide (And.intro hown hbw)
                    clear hown hbw
                    by_cases hlt2 : kk < 3
                    · have f1 : (kk : Int) < 3 := by omega
                      have f2 := wrap_in ((kk : Int) + 1) (by omega) (by omega)
                      go_upto_region 53 with fail
                      go_loopw [29, 31] (fun wv rv wr => ∃ rr : Nat, rr ≤ 2 ∧ rv = .int .i64 rr ∧ wr.ownsRow W3.heap.size 3 1 wv (kw its x stale e (kk * 2 + rr)).length (wvals its x (kw its x stale e (kk * 2 + rr))) ∧ Below W3.heap.size W3 wr) (fun _ rv _ => (2 - intOf rv).toNat)
                      case atStart => exact ⟨0, by omega, rfl, HO.out⟩
                      case round =>
                        clear HO
                        obtain ⟨rr, hrr, rfl, hown, hbw⟩ := hrel
                        have HO := hide (And.intro hown hbw)
                        clear hown hbw
                        by_cases hlt3 : rr < 2
                        · have g1 : (rr : Int) < 2 := by omega
                          have g2 := wrap_in ((rr : Int) + 1) (by omega) (by omega)
                          have hq1 : (kk * 2 + rr) / 2 = kk := by omega
                          have hq2 : (kk * 2 + rr) % 2 = rr := by omega
                          have lbb : bb < W3.heap.size := World.block_lt_of_cell? _ _ (HF.out.1.c 0 (by omega))
                          have hcell : wr.cell? ⟨bb, e * 6 + kk * 2 + rr, none⟩ = some (.int .i64 (bi its x (e, kk, rr))) := by
                            rw [HO.out.2.cell (by exact lbb), HF.out.1.c _ (by omega)]
                            exact congrArg (fun z => some (Value.int .i64 z)) (HF.out.2 e kk rr (by omega) (by omega) (by omega))
                          cases hbst : best its x (e, kk, rr) with
                          | none =>
                            have hbi : bi its x (e, kk, rr) = -1 := by unfold bi; rw [hbst]
                            rw [hbi] at hcell
                            have HS := hide (kw_skip (its := its) (n := x) (stale := stale) (e := e) (c := kk * 2 + rr) (by rw [hq1, hq2, hbst]; rfl))
                            clear hbi hbst
                            go_wp2
                            go_roundw
                            case rel => exact ⟨rr + 1, by omega, by go_num, by rw [← Nat.add_assoc, HS.out]; exact HO.out⟩
                            case measure => simp [intOf]; omega
                          | some j =>
                            have hbi : bi its x (e, kk, rr) = (j : Int) := by unfold bi; rw [hbst]
                            rw [hbi] at hcell
                            have hjx := (best_some hbst).1
                            obtain ⟨ib, io, hia, hIj⟩ := HI.out j hjx wr (HF.out.1.fw.trans (Fw.of_below HO.out.2))
                            subst hia
                            have q0 := hIj.c0
                            have q5 := hIj.c5
                            have hoj := HR.out.1 j hjx
                            have n1 : ¬ (j : Int) < 0 := by omega
                            have n2 : (j : Int) < x := by omega
                            have n3 : j < x := hjx
                            have n4 := wrap_in (its j).qt (by have := hoj.q0; omega) (by have := hoj.q1; omega)
                            have n5 := wrap_in (-(its j).qt) (by have := hoj.q1; omega) (by have := hoj.q0; omega)
                            have hbj : bj its x (e, kk, rr) = j := by unfold bj; rw [hbst]; rfl
                            have hus : us its x stale (e, kk, rr) = (decide (-(its j).qt ≤ stale) && decide (0 < (its j).bid)) := by unfold us; rw [hbj]
                            cases hu : us its x stale (e, kk, rr) with
                            | true =>
                              rw [hu] at hus
                              have hd1 : -(its j).qt ≤ stale := by have := hus.symm; simp at this; exact this.1
                              have hd2 : 0 < (its j).bid := by have := hus.symm; simp at this; exact this.2
                              have HS := hide (kw_take (its := its) (n := x) (stale := stale) (e := e) (c := kk * 2 + rr) (by rw [hq1, hq2, hbst, hu]; rfl))
                              have hl := kw_len its x stale e (kk * 2 + rr)
                              obtain ⟨v', W5, happ, hown5, hb5⟩ := append48 wr W3.heap.size _ _ _ HO.out.1 (j : Int) (by omega) HO.out.2.size
                              have HAP := hide happ
                              have HN : Hid (W5.ownsRow W3.heap.size 3 1 v' (kw its x stale e (kk * 2 + (rr + 1))).length (wvals its x (kw its x stale e (kk * 2 + (rr + 1)))) ∧ Below W3.heap.size W3 W5) := ⟨by
                                rw [← Nat.add_assoc, HS.out, hq1, hq2]
                                unfold wvals at hown5 ⊢
                                rw [List.map_append, List.length_append]
                                simp only [List.map_cons, List.map_nil, List.length_cons, List.length_nil, hbj]
                                exact hown5, HO.out.2.trans hb5⟩
                              clear hbi hbst hIj hus happ hown5 hb5 hu
                              go_wp2_with (first | (at_builtin; refine wpList_append_run rfl (.tmp 225) (.tmp 227) 48 48 rfl rfl _ _ _ rfl rfl HAP.out ?_))
                              go_roundw
                              case rel => exact ⟨rr + 1, by omega, by go_num, HN.out⟩
                              case measure => simp [intOf]; omega
                            | false =>
                              rw [hu] at hus
                              have HS := hide (kw_skip (its := its) (n := x) (stale := stale) (e := e) (c := kk * 2 + rr) (by rw [hq1, hq2, hbst, hu]; rfl))
                              by_cases hd1 : -(its j).qt ≤ stale
                              · have hd2 : ¬ 0 < (its j).bid := by have := hus.symm; simp at this; have := this hd1; omega
                                clear hbi hbst hIj hus hu
                                go_wp2
                                go_roundw
                                case rel => exact ⟨rr + 1, by omega, by go_num, by rw [← Nat.add_assoc, HS.out]; exact HO.out⟩
                                case measure => simp [intOf]; omega
                              · clear hbi hbst hIj hus hu
                                go_wp2
                                go_roundw
                                case rel => exact ⟨rr + 1, by omega, by go_num, by rw [← Nat.add_assoc, HS.out]; exact HO.out⟩
                                case measure => simp [intOf]; omega
                        · have g1 : ¬ (rr : Int) < 2 := by omega
                          have HO2 : Hid (wr.ownsRow W3.heap.size 3 1 u29 (kw its x stale e ((kk + 1) * 2)).length (wvals its x (kw its x stale e ((kk + 1) * 2))) ∧ Below W3.heap.size W3 wr) := ⟨by rw [show (kk + 1) * 2 = kk * 2 + rr by omega]; exact HO.out⟩
                          go_wp2
                          go_roundw
                          case rel => exact ⟨kk + 1, by omega, by go_num, HO2.out⟩
                          case measure => simp [intOf]; omega
                    · obtain rfl : kk = 3 := by omega
                      have f1 : ¬ (3 : Int) < 3 := by omega
                      obtain ⟨L, hLd⟩ : ∃ L, L = kw its x stale e 6 := ⟨_, rfl⟩
                      have hLn : L.Nodup := by rw [hLd]; exact kw_nodup _ _ _ _ _
                      have hLm : ∀ κ, κ ∈ L ↔ κ.1 = e ∧ (best its x κ).isSome = true ∧ us its x stale κ = true := fun κ => by rw [hLd]; exact kw_mem
                      have hLl : L.length ≤ 6 := by rw [hLd]; exact kw_len _ _ _ _ _
                      have hown : wr.ownsRow W3.heap.size 3 1 u29 L.length (wvals its x L) := by rw [hLd]; exact HO.out.1
                      have hbw := HO.out.2
                      clear hLd HO
                      obtain ⟨wa, wl, wcp, hu29⟩ := own_slice hown
                      by_cases hL0 : L = []
                      · have hwl : u29 = .slice wa 0 wcp := by
                          rw [hL0] at hown
                          obtain ⟨_, (⟨h, _⟩ | ⟨_, _, _, h, _⟩)⟩ := hown
                          · rw [hu29] at h; injection h with h1 h2 h3; rw [hu29, h2]
                          · rw [hu29] at h; injection h with h1 h2 h3; rw [hu29, h2]; rfl
                        have HPM : Hid (∀ y, y < k → (p y < e + 1 ↔ y < m)) := ⟨fun y hy => by
                          rw [← HM.out.1 y hy]
                          have : p y ≠ e := fun he => by
                            obtain ⟨κ, h1, h2, h3⟩ := (HC1.out.2.2.2.1 (p y)).1 ⟨y, hy, rfl⟩
                            have : κ ∈ L := (hLm κ).2 ⟨by omega, h2, h3⟩
                            rw [hL0] at this
                            cases this
                          omega⟩
                        have HBW := hide hbw
                        subst hwl
                        clear hown hu29 hLm hLn hbw
                        go_wp2
                        go_roundw
                        case rel => exact ⟨m, e + 1, by omega, by omega, hmk, rfl, by go_num, HPM.out, HBW.out⟩
                        case measure => simp [intOf]; omega
                      · have hLpos : 0 < L.length := List.length_pos_iff.2 hL0
                        obtain ⟨wg, wcp, hwl⟩ : ∃ wg wcp, u29 = .slice (some ⟨wg, 0, none⟩) L.length wcp := by
                          obtain ⟨_, (⟨_, h0⟩ | ⟨wg, wcp, _, h, _⟩)⟩ := id hown
                          · omega
                          · exact ⟨wg, wcp, h⟩
                        have hbjx : ∀ κ ∈ L, bj its x κ < x := fun κ hκ => by
                          obtain ⟨j, hj⟩ := Option.isSome_iff_exists.1 ((hLm κ).1 hκ).2.1
                          unfold bj
                          rw [hj]
                          exact (best_some hj).1
                        have HBJ := hide hbjx
                        obtain ⟨κ0, hκ0⟩ := List.exists_mem_of_ne_nil L hL0
                        obtain ⟨hm1, hpm⟩ : m < k ∧ p m = e := by
                          obtain ⟨y0, hy0, hpy⟩ := (HC1.out.2.2.2.1 e).2 ⟨κ0, (hLm κ0).1 hκ0⟩
                          have h1 := HM.out.1 y0 hy0
                          by_cases hh : y0 = m
                          · subst hh; exact ⟨hy0, hpy⟩
                          · exfalso
                            have h2 : m < y0 := by omega
                            have h3 := HC1.out.2.2.1 m y0 h2 hy0
                            have h4 := HM.out.1 m (by omega)
                            omega
                        have HPM : Hid (∀ y, y < k → (p y < e + 1 ↔ y < m + 1)) := ⟨fun y hy => by
                          have h1 := HM.out.1 y hy
                          by_cases hym : y = m
                          · subst hym; omega
                          · by_cases h2 : m < y
                            · have h3 := HC1.out.2.2.1 m y h2 hy; omega
                            · omega⟩
                        obtain ⟨cb, cc, l, hgc, hln, hlm, hlq⟩ := HC1.out.2.2.2.2 m hm1
                        have hll : l.length = L.length := by
                          have h1 := nodup_len l L hln (fun κ hκ => by
                            have := (hlm κ).1 hκ
                            rw [hpm] at this
                            exact (hLm κ).2 this)
                          have h2 := nodup_len L l hLn (fun κ hκ => by
                            have := (hLm κ).1 hκ
                            rw [← hpm] at this
                            exact (hlm κ).2 this)
                          omega
                        have hsub : ∀ κ ∈ L, κ ∈ l := fun κ hκ => by
                          have := (hLm κ).1 hκ
                          rw [← hpm] at this
                          exact (hlm κ).2 this
                        have s3 := HP9.out.ebb
                        have hkeep : ∀ q, q < w1.heap.size → W3.heap[q]? = w1.heap[q]? := fun q hq => by
                          rw [HF.out.1.fw.block q (by have := HP9.out.bel.size; omega) (by show ¬ q = bb; omega)]
                          exact HP9.out.bel.block q hq
                        have lW : w1.heap.size ≤ W3.heap.size := Nat.le_trans HP9.out.bel.size HF.out.1.fw.size
                        have lg : g < w1.heap.size := World.block_lt_of_cell? _ _ hgc
                        have hgc3 : W3.cell? ⟨g, m, none⟩ = some (.slice (some ⟨cb, 0, none⟩) L.length cc) := by
                          rw [World.cell?_of_block (w := w1) (hkeep g lg), hgc, hll]
                        have HQ3 : Hid (∀ y κ, l[y]? = some κ → Q14 W3 cb (y * 14) (its (bj its x κ)) (bj its x κ)) := ⟨fun y κ hy => by
                          have h := hlq y κ hy
                          exact h.same (hkeep cb (World.block_lt_of_cell? _ _ h.c0))⟩
                        have HLL := hide (And.intro hll hsub)
                        have hgw : wr.cell? ⟨g, m, none⟩ = some (.slice (some ⟨cb, 0, none⟩) L.length cc) := by rw [hbw.cell (by show g < W3.heap.size; omega)]; exact hgc3
                        have n1 : ¬ ((L.length : Int) = 0) := by omega
                        have n2 : ¬ (k : Int) ≤ m := by omega
                        have n3 : (m : Int) < k := by omega
                        have n4 : ¬ L.length = 0 := by omega
                        have n5 : ((L.length : Int) == 0) = false := by simp; omega
                        have HOW := hide (And.intro hown hbw)
                        subst hwl
                        clear hown hbw hu29 hLm hLn hgc hln hlm hlq hll hsub hkeep hgc3 hpm hκ0 s3
                        go_upto_region 68 with fail
                        go_loopw [249] (fun qv wr => ∃ q : Nat, q ≤ L.length ∧ qv = .int .i64 q ∧ wr.ownsRow W3.heap.size 3 1 (.slice (some ⟨wg, 0, none⟩) L.length wcp) L.length (wvals its x L) ∧ Below W3.heap.size W3 wr) (fun qv _ => (L.length - intOf qv).toNat)
                        case atStart => exact ⟨0, by omega, rfl, HOW.out⟩
                        case round =>
                          clear HOW hgw
                          obtain ⟨q, hq, rfl, hown, hbw⟩ := hrel
                          have HOW := hide (And.intro hown hbw)
                          clear hbw
                          by_cases hql : q < L.length
                          · have o1 : (q : Int) < L.length := by omega
                            have o2 := wrap_in ((q : Int) + 1) (by omega) (by omega)
                            obtain ⟨κ, hκ⟩ : ∃ κ, L[q]? = some κ := ⟨_, List.getElem?_eq_getElem hql⟩
                            have hκm : κ ∈ L := List.mem_of_getElem? hκ
                            have hwc : wr.cell? ⟨wg, q, none⟩ = some (.int .i64 (bj its x κ)) := by
                              rw [hown.cellAt q (by omega)]
                              unfold wvals
                              rw [List.getElem?_map, hκ]
                              rfl
                            have hbx := HBJ.out κ hκm
                            obtain ⟨J, hJ⟩ : ∃ J, J = bj its x κ := ⟨_, rfl⟩
                            rw [← hJ] at hwc hbx
                            have o3 := wrap_in ((J : Int) + 1) (by omega) (by omega)
                            obtain ⟨ys, hys⟩ := List.getElem?_of_mem (HLL.out.2 κ hκm)
                            have HY := hide (And.intro hJ (And.intro hys hκ))
                            clear hown hJ hys hκ hκm
                            go_upto_region 72 with fail
                            go_loopw [37, 255] (fun fv yv wr => ∃ y : Nat, y ≤ L.length ∧ fv = .bool false ∧ yv = .int .i64 y ∧ (∀ y', y' < y → y' ≠ ys) ∧ wr.ownsRow W3.heap.size 3 1 (.slice (some ⟨wg, 0, none⟩) L.length wcp) L.length (wvals its x L) ∧ Below W3.heap.size W3 wr) (fun _ yv _ => (L.length - intOf yv).toNat)
                            case atStart => exact ⟨0, by omega, rfl, rfl, fun y' h => by omega, HOW.out⟩
                            case round =>
                              clear HOW hwc
                              obtain ⟨y, hy, rfl, rfl, hyn, hown, hbw⟩ := hrel
                              by_cases hyl : y < L.length
                              · have p1 : (y : Int) < L.length := by omega
                                have p2 := wrap_in ((y : Int) + 1) (by omega) (by omega)
                                obtain ⟨κ', hκ'⟩ : ∃ κ', l[y]? = some κ' := ⟨_, List.getElem?_eq_getElem (by rw [HLL.out.1]; exact hyl)⟩
                                have hQ := HQ3.out y κ' hκ'
                                have lcb : cb < W3.heap.size := World.block_lt_of_cell? _ _ hQ.c0
                                obtain ⟨J', hJ'⟩ : ∃ J', J' = bj its x κ' := ⟨_, rfl⟩
                                rw [← hJ'] at hQ
                                have hQw : Q14 wr cb (y * 14) (its J') J' := hQ.same (hbw.block cb lcb)
                                obtain ⟨c0, c1, c2, c3, c4, c5, c6, c7, c8, c9, c10, c11, c12, c13⟩ := hQw
                                have hal : Hid (∀ o, wr.ownsRow W3.heap.size 3 1 (.slice (some ⟨wg, 0, none⟩) L.length wcp) L.length (wvals its x L) ∧ Below W3.heap.size W3 wr → (wr.alloc o).ownsRow W3.heap.size 3 1 (.slice (some ⟨wg, 0, none⟩) L.length wcp) L.length (wvals its x L) ∧ Below W3.heap.size W3 (wr.alloc o)) := ⟨fun o h => ⟨h.1.alloc o, h.2.alloc h.2.size o⟩⟩
                                have HW := hide (And.intro hown hbw)
                                have HYN := hide (And.intro hyn (And.intro hκ' hJ'))
                                clear hown hbw hyn hκ' hJ' hQ
                                by_cases hJJ : J' = J
                                · subst hJJ
                                  go_wp2
                                  go_roundw
                                  case rel => exact ⟨q + 1, by omega, by go_num, hal.out _ HW.out⟩
                                  case measure => simp [intOf]; omega
                                · have hne : ¬ ((J' : Int) = J) := by omega
                                  have hne2 : ((J' : Int) + 1 == (J : Int) + 1) = false := by simp; omega
                                  go_wp2
                                  go_roundw
                                  case rel => exact ⟨y + 1, by omega, rfl, by go_num, fun y' h => by
                                    by_cases h1 : y' < y
                                    · exact HYN.out.1 y' h1
                                    · intro h2
                                      have h3 : y = ys := by omega
                                      have h4 := HYN.out.2.1
                                      rw [h3, HY.out.2.1] at h4
                                      injection h4 with h4
                                      rw [HYN.out.2.2, HY.out.1, h4] at hJJ
                                      exact hJJ rfl, hal.out _ HW.out⟩
                                  case measure => simp [intOf]; omega
                              · exfalso
                                have h1 := (List.getElem?_eq_some_iff.1 HY.out.2.1).1
                                rw [HLL.out.1] at h1
                                exact hyn ys (by omega) rfl
                          · have o1 : ¬ (q : Int) < L.length := by omega
                            clear hown
                            go_wp2
                            go_roundw
                            case rel => exact ⟨m + 1, e + 1, by omega, by omega, by omega, by go_num, by go_num, HPM.out, HOW.out.2⟩
                            case measure => simp [intOf]; omega
                · have e1 : ¬ (e : Int) < 5 := by omega
                  have hmk2 : m = k := by
                    rcases Nat.lt_or_ge m k with h | h
                    · exfalso
                      obtain ⟨κ, h1, h2, h3⟩ := (HC1.out.2.2.2.1 (p m)).1 ⟨m, h, rfl⟩
                      obtain ⟨j, hj⟩ := Option.isSome_iff_exists.1 h2
                      have h4 := (best_some hj).2.2
                      have h5 := (its j).ee_lt
                      have h6 : (its j).ee = κ.1 := by rw [← h4]; rfl
                      have h7 := HM.out.1 m h
                      omega
                    · omega
                  subst hmk2
                  have HEND : Hid (Below w.heap.size w wr) := ⟨by
                    have s1 := HW0.out.size
                    have s2 := HC1.out.1.size
                    have s3 := HP9.out.bel.size
                    have s4 := HP9.out.ebb
                    have s5 := HF.out.1.fw.size
                    have b1 := HW0.out.trans (HC1.out.1.mono s1)
                    have b2 := b1.trans (HP9.out.bel.mono b1.size)
                    have b3 : Below w.heap.size w W3 := b2.trans ⟨HF.out.1.fw.os, HF.out.1.fw.tape, HF.out.1.fw.output, HF.out.1.fw.size, fun q hq => HF.out.1.fw.block q (by omega) (by show ¬ q = bb; omega)⟩
                    exact b3.trans (HM.out.2.mono b3.size)⟩
                  go_wp2
                  go_ret
                  exact ⟨rfl, HEND.out⟩
end Go.Proofs.YbulkcggyDoor
