import Derived.Test.YbulkcggyDoorK11
namespace Go.Proofs.YbulkcggyDoor
open Go.RowKit
set_option linter.unusedVariables false
set_option linter.unusedSectionVars false
set_option linter.unusedSimpArgs false
set_option maxRecDepth 100000
set_option maxHeartbeats 8000000 in
theorem chains_any (its : Nat → It) (stale : Int) (n qb : Nat) (w : World) (hok : ∀ i, i < n → (its i).ok) (hn : n ≤ 1024) (hrow : QRow w qb n its) (hs0 : 0 ≤ stale) (hs1 : stale < 300) :
    Calls Ybad.prog 5 #[.agg #[.int .i64 (stale * 60000000000), .int .i64 0, .int .i64 0], .slice (some ⟨qb, 0, none⟩) n n, .agg #[.int .u64 0, .int .i64 3600000, .pointer none]] w (ChainsPost its n stale w) := by
  obtain ⟨V, A, B, m, hV⟩ := P3.mk' w stale
  have lA : A < V.heap.size := World.block_lt_of_cell? _ _ hV.a0
  have lB : B < V.heap.size := World.block_lt_of_cell? _ _ hV.b0
  have lm : m < V.heap.size := by
    rcases Nat.lt_or_ge m V.heap.size with h | h
    · exact h
    · have := hV.map; simp [Array.getElem?_eq_none h] at this
  have hAm : A ≠ m ∧ B ≠ m := by have := hV.eA; have := hV.eB; have := hV.em; omega
  have hrowV : QRow V qb n its ∧ (0 < n → qb < V.heap.size ∧ qb ≠ m) := by
    by_cases h0 : 0 < n
    · have hq : qb < w.heap.size := World.block_lt_of_cell? _ _ (hrow 0 h0 0 _ rfl)
      exact ⟨fun i hi j v hj => by rw [hV.bel.cell (by exact hq)]; exact hrow i hi j v hj, fun _ => ⟨by have := hV.bel.size; omega, by have := hV.em; omega⟩⟩
    · exact ⟨fun i hi => by omega, fun h => absurd h h0⟩
  have HR := hide (And.intro hok hrowV)
  have HV := hide hV
  clear hok hrow hrowV hV
  have hmm := @run_makeMap Ybad.prog
  go_enter Ybad.func5, Ybad.ntmps5
  go_upto_region 3 with fail
  rw [← HV.out.eq, ← HV.out.em, ← HV.out.eB, ← HV.out.eA]
  clear hmm
  go_loopw [22] (fun iv wr => ∃ (i : Nat) (ks : List Key), i ≤ n ∧ iv = .int .i64 i ∧ L1 its V m n i ks wr) (fun iv _ => (n - intOf iv).toNat)
  case atStart => exact ⟨0, [], by omega, rfl, Fw.refl _ _, HV.out.map, LatOk.zero its⟩
  case round =>
    obtain ⟨i, ks, hin, rfl, hL⟩ := hrel
    by_cases hlt : i < n
    · have i1 : (i : Int) < n := by omega
      have i2 := wrap_in ((i : Int) + 1) (by omega) (by omega)
      obtain ⟨hq1, hq2⟩ := HR.out.2.2 (by omega)
      have hq : Q14 wr qb (i * 14) (its i) i := by
        have h := HR.out.2.1.at i hlt
        have c : ∀ o, wr.cell? ⟨qb, o, none⟩ = V.cell? ⟨qb, o, none⟩ := fun o => hL.fw.cell (by exact hq1) hq2
        exact ⟨by rw [c]; exact h.c0, by rw [c]; exact h.c1, by rw [c]; exact h.c2, by rw [c]; exact h.c3, by rw [c]; exact h.c4, by rw [c]; exact h.c5, by rw [c]; exact h.c6, by rw [c]; exact h.c7, by rw [c]; exact h.c8, by rw [c]; exact h.c9, by rw [c]; exact h.c10, by rw [c]; exact h.c11, by rw [c]; exact h.c12, by rw [c]; exact h.c13⟩
      obtain ⟨c0, c1, c2, c3, c4, c5, c6, c7, c8, c9, c10, c11, c12, c13⟩ := hq
      have HL := hide hL
      clear hL
      go_upto_region 5 with fail
      obtain ⟨V2, hV2, hQ, hb2⟩ := Q14.alloc wr (its i) i 42
      rw [← hV2]
      obtain ⟨q, hq⟩ : ∃ q, q = wr.heap.size := ⟨_, rfl⟩
      rw [← hq]
      rw [← hq] at hQ
      have hlm : m < wr.heap.size := by have := HL.out.fw.size; omega
      have lB2 : B < wr.heap.size := by have := HL.out.fw.size; omega
      have hB2 : V2.cell? ⟨B, 0, none⟩ = some (.int .u64 0) ∧ V2.cell? ⟨B, 1, none⟩ = some (.int .i64 3600000) ∧ V2.cell? ⟨B, 2, none⟩ = some (.pointer none) := by
        have c : ∀ o, V2.cell? ⟨B, o, none⟩ = V.cell? ⟨B, o, none⟩ := fun o => by rw [hb2.cell (by exact lB2), HL.out.fw.cell (by exact lB) hAm.2]
        exact ⟨by rw [c]; exact HV.out.b0, by rw [c]; exact HV.out.b1, by rw [c]; exact HV.out.b2⟩
      obtain ⟨t0, t1, t2⟩ := hB2
      have HB2 := hide (And.intro hb2 hq)
      have hoki := hide (HR.out.1 i hlt)
      clear c0 c1 c2 c3 c4 c5 c6 c7 c8 c9 c10 c11 c12 c13 hV2 hb2 hq
      have HSK : Hid (∀ w3, Below V2.heap.size V2 w3 → L1 its V m n i ks w3) := ⟨fun w3 h3 => by
        have hb := HB2.out.1.trans (h3.mono (by have := HB2.out.1.size; exact this))
        exact ⟨HL.out.fw.trans (Fw.of_below hb), by unfold MapAt; rw [hb.block m hlm]; exact HL.out.map, HL.out.ok⟩⟩
      have HQ := hide hQ
      have HT : Hid (T3 V2 B 3600000) := ⟨⟨t0, t1, t2⟩⟩
      obtain ⟨q0, q1, q2, q3, q4, q5, q6, q7, q8, q9, q10, q11, q12, q13⟩ := hQ
      simp only [Nat.zero_add] at q1 q2 q3 q4 q5 q6 q7 q8 q9 q10 q11 q12 q13
      by_cases hqt : 0 < (its i).qt
      · have hd : decide (3600000 < (its i).tm) = true := by unfold It.tm; simp; omega
        go_wp2_with (first
          | (go_at_call 10; refine (after_any _ _ _).mono ?_; rintro e w3 ⟨rfl, rfl⟩))
        go_roundw
        case rel => exact ⟨i + 1, ks, by omega, by go_num, (HSK.out _ (W2.below V2 _ _)).same (best_skip (by unfold It.elig; simp; omega))⟩
        case measure => simp [intOf]; omega
      · have hd : decide (3600000 < (its i).tm) = false := by unfold It.tm; simp; omega
        by_cases hee : (its i).ee < 2
        · have hd2 : decide (3600000 < xp (its i).ee) = false := by unfold xp; simp; omega
          go_wp2_with (first
            | (go_at_call_of 10 (Value.agg #[.int .u64 0, .int .i64 (its i).tm, .pointer none]); refine (after_any _ _ _).mono ?_; rintro e w3 ⟨rfl, hw3⟩; have HB3 := hide (W2.below' hw3); clear hw3; have HQ3 := hide (HQ.out.below HB3.out); have HT3 := hide (HT.out.below HB3.out); clear t0 t1 t2 q0 q1 q2 q3 q4 q5 q6 q7 q8 q9 q10 q11 q12 q13; obtain ⟨t0, t1, t2⟩ := HT3.out; obtain ⟨q0, q1, q2, q3, q4, q5, q6, q7, q8, q9, q10, q11, q12, q13⟩ := HQ3.out; simp only [Nat.zero_add] at q1 q2 q3 q4 q5 q6 q7 q8 q9 q10 q11 q12 q13)
            | (go_at_call_of 10 (Value.agg #[.int .u64 0, .int .i64 (xp (its i).ee), .pointer none]); refine (after_any _ _ _).mono ?_; rintro e w4 ⟨rfl, hw4⟩; have HB4 := hide (HB3.out.trans ((W2.below' hw4).mono HB3.out.size)); clear hw4; have HQ4 := hide (HQ.out.below HB4.out); have HT4 := hide (HT.out.below HB4.out); clear t0 t1 t2 q0 q1 q2 q3 q4 q5 q6 q7 q8 q9 q10 q11 q12 q13))
          go_roundw
          case rel => exact ⟨i + 1, ks, by omega, by go_num, (HSK.out _ HB4.out).same (best_skip (by unfold It.elig; simp; omega))⟩
          case measure => simp [intOf]; omega
        · have hd2 : decide (3600000 < xp (its i).ee) = true := by unfold xp; simp; omega
          have hel : (its i).elig = true := by unfold It.elig; simp; omega
          go_upto_region 6 with (first
            | (go_at_call_of 10 (Value.agg #[.int .u64 0, .int .i64 (its i).tm, .pointer none]); refine (after_any _ _ _).mono ?_; rintro e w3 ⟨rfl, hw3⟩; have HB3 := hide (W2.below' hw3); clear hw3; have HQ3 := hide (HQ.out.below HB3.out); have HT3 := hide (HT.out.below HB3.out); clear t0 t1 t2 q0 q1 q2 q3 q4 q5 q6 q7 q8 q9 q10 q11 q12 q13; obtain ⟨t0, t1, t2⟩ := HT3.out; obtain ⟨q0, q1, q2, q3, q4, q5, q6, q7, q8, q9, q10, q11, q12, q13⟩ := HQ3.out; simp only [Nat.zero_add] at q1 q2 q3 q4 q5 q6 q7 q8 q9 q10 q11 q12 q13)
            | (go_at_call_of 10 (Value.agg #[.int .u64 0, .int .i64 (xp (its i).ee), .pointer none]); refine (after_any _ _ _).mono ?_; rintro e w4 ⟨rfl, hw4⟩; have HB4 := hide (HB3.out.trans ((W2.below' hw4).mono HB3.out.size)); clear hw4; have HQ4 := hide (HQ.out.below HB4.out); have HT4 := hide (HT.out.below HB4.out); clear t0 t1 t2 q0 q1 q2 q3 q4 q5 q6 q7 q8 q9 q10 q11 q12 q13))
          clear HB3 HQ3 HT3 w3
          have HL4 := hide (HSK.out _ HB4.out)
          clear HSK HB4 HB2 HL
          obtain ⟨q0, q1, q2, q3, q4, q5, q6, q7, q8, q9, q10, q11, q12, q13⟩ := HQ4.out
          simp only [Nat.zero_add] at q1 q2 q3 q4 q5 q6 q7 q8 q9 q10 q11 q12 q13
          have HTR := hide (fun w => trim_any ((its i).kk + 1) (its i).ss w (by have := (its i).kk_lt; omega) (by have := (its i).ss_lt; omega))
          go_cut [10] (fun s10 wc => ∃ kb, s10 = .pointer (some ⟨kb, 0, none⟩) ∧ K6 wc kb (its i).key ∧ Below w4.heap.size w4 wc)
          case first =>
            go_wp2_with fail
            go_region_held3 (fun w' => w'.cell? ⟨q, 4, none⟩ = some (.int .u64 0) ∧ w'.cell? ⟨q, 5, none⟩ = some (.int .i64 (xp (its i).ee)) ∧ w'.cell? ⟨q, 6, none⟩ = some (.pointer none) ∧ w'.cell? ⟨q, 7, none⟩ = some (.int .i64 ((((its i).kk : Int) + 1) * 10 ^ (its i).ss)) ∧ w'.cell? ⟨q, 8, none⟩ = some (.int .i64 (its i).ss) ∧ w'.cell? ⟨q, 9, none⟩ = some (.int .i64 (its i).rr)) (exact S7 HQ4.out (by (try unfold W2); repeat (first | exact Below.refl _ _ | refine Below.drew ?_ | refine Below.alloc ?_ (by simp +arith) _)))
              (first
                | (go_at_call 11; refine (utc_any _ _).mono ?_; rintro e w' ⟨rfl, rfl⟩; unfold W2)
                | (go_at_call 12; refine (HTR.out _).mono ?_; rintro e w' ⟨rfl, rfl⟩))
            all_goals go_wp2
            all_goals go_meet
            all_goals exact ⟨_, rfl, by constructor <;> simp +arith [World.cell?_alloc_past, World.cell?_alloc_at, It.key], by repeat (first | exact Below.refl _ _ | refine Below.drew ?_ | refine Below.alloc ?_ (by simp +arith) _)⟩
          case rest =>
            clear HTR
            obtain ⟨kb, hs10, hK6, hb5⟩ := hcut
            subst hs10
            have HL5 := hide (HL4.out.below lm hb5)
            have HQ5 := hide (HQ4.out.below hb5)
            have HK5 := hide hK6
            clear HL4 HQ4 hb5 hK6 q0 q1 q2 q3 q4 q5 q6 q7 q8 q9 q10 q11 q12 q13 HQ HT
            obtain ⟨q0, q1, q2, q3, q4, q5, q6, q7, q8, q9, q10, q11, q12, q13⟩ := HQ5.out
            simp only [Nat.zero_add] at q1 q2 q3 q4 q5 q6 q7 q8 q9 q10 q11 q12 q13
            obtain ⟨k0, k1, k2, k3, k4, k5⟩ := HK5.out
            simp only [It.key] at k1 k3 k5
            have lq : q < wc.heap.size := World.block_lt_of_cell? _ _ q0
            have lkb : kb < wc.heap.size := World.block_lt_of_cell? _ _ k0
            by_cases hk : (its i).key ∈ ks
            · obtain ⟨j, hj⟩ : ∃ j, best its i (its i).key = some j := Option.isSome_iff_exists.1 ((HL5.out.ok.2 _).1 hk)
              have hlook := lookup_yes Ybad.underlying52 keys57 (bv its i) (its i).key wc m ks HL5.out.map hk
              rw [show bv its i (its i).key = qv (its j) j by unfold bv; rw [hj]; rfl] at hlook
              unfold kval kv qv qc at hlook
              simp only [It.key] at hlook
              by_cases hle : (its j).qt ≤ (its i).qt
              · have h2 : Hid (∀ j, best its i (its i).key = some j → (its j).qt ≤ (its i).qt) := ⟨fun j' hj' => by rw [hj] at hj'; injection hj' with hj'; subst hj'; exact hle⟩
                have hd3 : decide ((its i).tm < (its j).tm) = false := by unfold It.tm; simp; omega
                have HJ := hide hj
                clear hj
                go_upto_region 9 with (first
                  | (go_at_call 13; refine (before_any _ _ _).mono ?_; rintro e W ⟨rfl, hW⟩; have hbW : Below wc.heap.size wc W := ((Below.refl _ _).alloc (Nat.le_refl _) _).trans ((W2.below' hW).mono (by simp)); clear hW))
                have HL6 := hide (HL5.out.below lm hbW)
                have HQ6 := hide (HQ5.out.below hbW)
                have HK6 := hide (HK5.out.below hbW)
                clear HL5 HQ5 HK5 hbW q0 q1 q2 q3 q4 q5 q6 q7 q8 q9 q10 q11 q12 q13 k0 k1 k2 k3 k4 k5 hlook
                obtain ⟨q0, q1, q2, q3, q4, q5, q6, q7, q8, q9, q10, q11, q12, q13⟩ := HQ6.out
                simp only [Nat.zero_add] at q1 q2 q3 q4 q5 q6 q7 q8 q9 q10 q11 q12 q13
                obtain ⟨k0, k1, k2, k3, k4, k5⟩ := HK6.out
                simp only [It.key] at k1 k3 k5
                obtain ⟨o, ks', hup, hL7⟩ := HL6.out.store lm hel h2.out
                have HL7 := hide hL7
                clear hL7 HL6
                go_wp2
                go_roundw
                case rel => exact ⟨i + 1, ks', by omega, by go_num, HL7.out⟩
                case measure => simp [intOf]; omega
              · have hd3 : decide ((its i).tm < (its j).tm) = true := by unfold It.tm; simp; omega
                have HJ := hide hj
                clear hj
                go_wp2_with (first
                  | (go_at_call 13; refine (before_any _ _ _).mono ?_; rintro e W ⟨rfl, hW⟩; have hbW : Below wc.heap.size wc W := ((Below.refl _ _).alloc (Nat.le_refl _) _).trans ((W2.below' hW).mono (by simp)); clear hW))
                go_roundw
                case rel => exact ⟨i + 1, ks, by omega, by go_num, (HL5.out.below lm hbW).same (best_leave HJ.out (by omega))⟩
                case measure => simp [intOf]; omega
            · have hlook := lookup_no Ybad.underlying52 keys57 (bv its i) (its i).key wc m ks _ (zero42 wc) HL5.out.map hk
              unfold kval kv at hlook
              simp only [It.key] at hlook
              have h2 : Hid (∀ j, best its i (its i).key = some j → (its j).qt ≤ (its i).qt) := ⟨fun j hj => absurd ((HL5.out.ok.2 _).2 (by rw [hj]; rfl)) hk⟩
              go_upto_region 9 with fail
              obtain ⟨W, hW⟩ : ∃ W, W = wc.alloc (.cells #[.int .u64 0, .int .i64 0, .pointer none, .string ⟨#[]⟩, .int .u64 0, .int .i64 0, .pointer none, .int .i64 0, .int .i64 0, .int .i64 0, .int .i64 0, .int .i64 0, .int .i64 0, .int .i64 0] 42) := ⟨_, rfl⟩
              have hbW : Below wc.heap.size wc W := by rw [hW]; exact (Below.refl _ _).alloc (Nat.le_refl _) _
              rw [← hW]
              clear hW
              have HL6 := hide (HL5.out.below lm hbW)
              have HQ6 := hide (HQ5.out.below hbW)
              have HK6 := hide (HK5.out.below hbW)
              clear HL5 HQ5 HK5 hbW q0 q1 q2 q3 q4 q5 q6 q7 q8 q9 q10 q11 q12 q13 k0 k1 k2 k3 k4 k5 hlook
              obtain ⟨q0, q1, q2, q3, q4, q5, q6, q7, q8, q9, q10, q11, q12, q13⟩ := HQ6.out
              simp only [Nat.zero_add] at q1 q2 q3 q4 q5 q6 q7 q8 q9 q10 q11 q12 q13
              obtain ⟨k0, k1, k2, k3, k4, k5⟩ := HK6.out
              simp only [It.key] at k1 k3 k5
              obtain ⟨o, ks', hup, hL7⟩ := HL6.out.store lm hel h2.out
              have HL7 := hide hL7
              clear hL7 HL6
              go_wp2
              go_roundw
              case rel => exact ⟨i + 1, ks', by omega, by go_num, HL7.out⟩
              case measure => simp [intOf]; omega
    · obtain rfl : i = n := by omega
      have i1 : ¬ (i : Int) < i := by omega
      have HL := hide hL
      clear hL
      obtain ⟨Wb, m2, r, hP⟩ := P5.mk' wr m ks.length
      have hlm : m < wr.heap.size := by have := HL.out.fw.size; omega
      have hrange := run_range_map (P := Ybad.prog) (wr.alloc (.map #[] 0)) 52 57 42 m (ents kval (bv its i) 0 ks).toArray ks.length Ybad.underlying52 (by rw [heap_alloc_old _ _ hlm]; exact HL.out.map)
      have hmm := @run_makeMap Ybad.prog
      go_upto_region 13 with fail
      rw [← hP.eq, ← hP.er, ← hP.em2]
      have hB : A < Wb.heap.size ∧ B < Wb.heap.size ∧ m < Wb.heap.size ∧ m2 < Wb.heap.size ∧ r < Wb.heap.size ∧ A ≠ m2 ∧ A ≠ r ∧ B ≠ m2 ∧ B ≠ r ∧ m ≠ m2 ∧ m ≠ r ∧ m2 ≠ r := by
        have h1 := hP.em2; have h2 := hP.er; have h3 := HL.out.fw.size; have h4 := hP.bel.size
        have h5 := (Array.getElem?_eq_some_iff.1 hP.it).1
        refine ⟨?_, ?_, ?_, ?_, ?_, ?_, ?_, ?_, ?_, ?_, ?_, ?_⟩ <;> omega
      have HLK : Hid (∀ κ, κ ∈ ks ↔ (best its i κ).isSome = true) := ⟨HL.out.ok.2⟩
      have HWB : Hid (MapAt Wb m kval (bv its i) ks ∧ T3 Wb B 3600000 ∧ Wb.cell? ⟨A, 0, none⟩ = some (.int .i64 (stale * 60000000000)) ∧ ks.Nodup ∧ (∀ κ ∈ ks, (best its i κ).isSome = true) ∧ ks.length ≤ 1024) := by
        have lB' : B < wr.heap.size := by have := HL.out.fw.size; omega
        have lA' : A < wr.heap.size := by have := HL.out.fw.size; omega
        have c : ∀ o, Wb.cell? ⟨B, o, none⟩ = V.cell? ⟨B, o, none⟩ := fun o => by rw [hP.bel.cell (by exact lB'), HL.out.fw.cell (by exact lB) hAm.2]
        refine ⟨⟨by unfold MapAt; rw [hP.bel.block m hlm]; exact HL.out.map, ⟨by rw [c]; exact HV.out.b0, by rw [c]; exact HV.out.b1, by rw [c]; exact HV.out.b2⟩, by rw [hP.bel.cell (by exact lA'), HL.out.fw.cell (by exact lA) hAm.1]; exact HV.out.a0, HL.out.ok.1, fun κ hk => (HL.out.ok.2 κ).1 hk, ?_⟩⟩
        exact lat_len HL.out.ok hn
      have HBW : Hid (Below w.heap.size w Wb ∧ w.heap.size ≤ m2 ∧ w.heap.size ≤ r) := ⟨by
        have h1 : Below w.heap.size w wr := by
          have hs := HV.out.bel.size
          have hm := HV.out.em
          refine HV.out.bel.trans ⟨HL.out.fw.os, HL.out.fw.tape, HL.out.fw.output, HL.out.fw.size, fun g hg => HL.out.fw.block g (by omega) (by omega)⟩
        have h2 := h1.size
        have h3 := hP.em2
        have h4 := hP.er
        exact ⟨h1.trans (hP.bel.mono h2), by omega, by omega⟩⟩
      have HP := hide hP
      clear hP hrange hmm
      go_loopw [] (fun wr2 => ∃ dn seen xs sv, L2 its i stale Wb m m2 r ks dn seen xs sv wr2) (fun wr2 => ks.length - (wr2.iterSeen r).size)
      case atStart => exact ⟨[], #[], [], fun _ => .slice none 0 0, Fb.refl _ _ _, HP.out.it, Seen.nil, HP.out.map, by simp, fun e => by simp, fun e he => by simp at he, fun κ hk => by simp at hk, Nat.le_refl _⟩
      case round =>
        clear HP HL
        obtain ⟨dn, seen, xs, sv, h2⟩ := hrel
        obtain ⟨lA2, lB2, lm2, lmm, lr, nA1, nA2, nB1, nB2, nm1, nm2, nmr⟩ := hB
        have hmap : MapAt wr m kval (bv its i) ks := by unfold MapAt; rw [h2.fb.block m lm2 (by rintro (h | h) <;> omega)]; exact HWB.out.1
        rcases next_step wr 0 r m dn seen HWB.out.2.2.2.1 hmap h2.it h2.seen with ⟨hall, hnext⟩ | ⟨b, κ, W, hb, hnd, hmem, hseen, hWx, hnext, hentry⟩
        · have HL2 := hide h2
          have HALL := hide hall
          have hlen : ((ents tval sv 0 xs).toArray.size : Int) = xs.length := by rw [List.size_toArray, ents_len]
          have hm2 := h2.grp.map
          unfold MapAt at hm2
          have hx3 : Hid (xs.length ≤ 1024) := ⟨by have := h2.grp.len; omega⟩
          clear h2 hall hmap
          obtain ⟨i0, hi, hz0, hz1, hz2⟩ := info_parts info34
          have hlr : (Builtin.len_ #[59] 3 #[.map (some m2)]).run Ybad.prog wr = .ok (.int .i64 xs.length) wr := by
            simp [Builtin.len_, run_underlying Ybad.underlying59, MapKept.run_getObj_map hm2, goInt, ents_len]
          have hml : xs.length ≤ maxLen := by have := hx3.out; unfold maxLen; omega
          have hbt : i0.bytes * xs.length ≤ 281474976710656 := by have := hx3.out; rw [hz2]; omega
          go_wp2_with (first | (at_make; refine wpList_make_own _ rfl _ _ 43 rfl wr.heap.size 34 i0 (.slice none 0 0) 1 Ybad.underlying43 hi hz0 hz1 _ _ _ xs.length rfl rfl rfl hbt hml (Nat.le_refl _) ?_))
          intro w7 hown7 hgrow7
          obtain ⟨Wd, hWd⟩ : ∃ Wd, Wd = wr := ⟨_, rfl⟩
          subst hWd
          have lm2d : m2 < Wd.heap.size := (Array.getElem?_eq_some_iff.1 hm2).1
          have hrange := run_range_map (P := Ybad.prog) w7 59 27 34 m2 (ents tval sv 0 xs).toArray xs.length Ybad.underlying59 (by rw [hgrow7.block m2 lm2d (by simp)]; exact hm2)
          obtain ⟨W8, hW8⟩ : ∃ W8, W8 = w7.alloc (.mapIter (some m2) xs.length #[] xs.length) := ⟨_, rfl⟩
          obtain ⟨r2, hr2⟩ : ∃ r2, r2 = w7.heap.size := ⟨_, rfl⟩
          have HL3 : Hid (L3 Wd m2 r2 sv xs [] #[] (.slice (some ⟨Wd.heap.size, 0, none⟩) 0 xs.length) W8) := ⟨by
            refine ⟨⟨?_, ?_, ?_, ?_, fun g hg => ?_⟩, ?_, Seen.nil, ?_, ⟨_, _, rfl⟩⟩
            · rw [hW8]; exact hgrow7.os
            · rw [hW8]; exact hgrow7.tape
            · rw [hW8]; exact hgrow7.output
            · rw [hW8]; have := hgrow7.size; simp; omega
            · rw [hW8, heap_alloc_old _ _ (by have := hgrow7.size; omega)]; exact hgrow7.block g hg (by simp)
            · rw [hW8, hr2]; exact heap_alloc_new _ _
            · rw [hW8]; exact hown7.alloc _⟩
          have hr2d : Wd.heap.size ≤ r2 := by rw [hr2]; exact hgrow7.size
          have HW8 := hide (And.intro hW8 hr2)
          clear hW8 hr2 hown7 hgrow7 hlr hlen hz0 hz1 hz2 hml hbt
          go_upto_region 19 with fail
          rw [← HW8.out.1, ← HW8.out.2]
          clear hrange hnext
          go_loopw [16] (fun cv wr => ∃ pk seen, L3 Wd m2 r2 sv xs pk seen cv wr) (fun _ wr => xs.length - (wr.iterSeen r2).size)
          case atStart => exact ⟨[], #[], HL3.out⟩
          case round =>
            clear HL3 HW8
            obtain ⟨pk, seen2, h3⟩ := hrel
            have hmap3 : MapAt wr m2 tval sv xs := by unfold MapAt; rw [h3.fb.block m2 lm2d]; exact hm2
            rcases next_step wr 0 r2 m2 pk seen2 HL2.out.grp.nd hmap3 h3.it h3.seen with ⟨hall3, hnext⟩ | ⟨b, e, W, hb, hnd, hmem, hseen, ⟨w1, hw1, hW⟩, hnext, hentry⟩
            · obtain ⟨g, cap, hcv⟩ := h3.nn
              subst hcv
              have hpn := h3.seen.nodup HL2.out.grp.nd
              have hgd : Wd.heap.size ≤ g := (h3.own.lt g rfl).1
              have hk3 : pk.length ≤ 3 := Nat.le_trans (nodup_len pk xs hpn (fun a ha => (hall3 a).1 ha)) HL2.out.grp.len
              have HSORT := hide (sort_any g pk.length cap sv (fun x => pk.getD x 0) wr hk3 (h3.sr hpn) (fun x hx => by
                have hm : pk.getD x 0 ∈ xs := by
                  rw [← hall3, List.getD_eq_getElem?_getD, List.getElem?_eq_getElem hx]
                  exact List.getElem_mem hx
                exact (HL2.out.grp.chn hm g hgd).fw (Fw.of_below h3.fb)))
              have HEND : Hid (∀ p w', SR wr g pk.length sv (fun x => pk.getD x 0) p w' → Srt p pk.length → ChainsPost its i stale w (.returned (.slice (some ⟨g, 0, none⟩) pk.length cap)) w') := ⟨fun p w' h4 h5 => by
                have hwd : Below w.heap.size w Wd := HBW.out.1.trans ⟨HL2.out.fb.os, HL2.out.fb.tape, HL2.out.fb.output, HL2.out.fb.size, fun q hq => HL2.out.fb.block q (by have := HBW.out.1.size; omega) (by have h6 := HBW.out.2; rintro (h | h) <;> omega)⟩
                refine chains_end HL2.out.grp (HL2.out.seen.nodup HWB.out.2.2.2.1) (fun κ => ?_) hall3 hpn hwd h3.fb hgd h4 h5
                rw [HALL.out κ]
                exact HLK.out κ⟩
              clear hmap3 hall3 h3 hpn hgd hk3
              go_wp2_with (first | (go_at_call 16; refine HSORT.out.mono ?_; rintro e w9 ⟨rfl, p, hp1, hp2⟩; have HP9 := hide (HEND.out p w9 hp1 hp2); clear hp1 hp2))
              go_ret
              exact HP9.out
            · obtain ⟨sa, sl, sc, hsv⟩ := own_slice (HL2.out.grp.own e hmem)
              have hpk : pk.length < xs.length := by
                have := nodup_len (pk ++ [e]) xs (hseen.nodup HL2.out.grp.nd) hseen.sub
                simp at this
                omega
              obtain ⟨v', W9, happ, hL9⟩ := h3.step hw1 hr2d hseen (by rw [hsv]; rfl) (by have := hx3.out; omega)
              rw [← hW, hsv] at happ
              rw [hsv] at hnext hentry
              have HAPP := hide happ
              have HL9 := hide hL9
              have HPK : Hid ((wr.iterSeen r2).size = pk.length) := ⟨by rw [iter_seen h3.it]; exact h3.seen.size⟩
              unfold tval tv at hnext hentry
              clear happ hL9 h3 hmap3 hW hw1 hseen hsv
              go_wp2_with (first | (at_builtin; refine wpList_append_run rfl (.tmp 109) (.tmp 111) 43 43 rfl rfl _ _ _ rfl rfl HAPP.out ?_))
              go_roundw
              case rel => exact ⟨pk ++ [e], seen2.push b, HL9.out⟩
              case measure =>
                rw [iter_seen HL9.out.it, HPK.out]
                have h3 := HL9.out.seen.size
                simp at h3
                simp
                omega
        · have hbs := HWB.out.2.2.2.2.1 κ hmem
          have HG : Hid (Fb Wb.heap.size (fun g => g = m2 ∨ g = r) Wb W ∧ W.heap[r]? = some (.mapIter (some m) ks.length (seen.push b) ks.length) ∧ Grp its i stale Wb.heap.size m2 dn xs sv W ∧ T3 W B 3600000 ∧ W.cell? ⟨A, 0, none⟩ = some (.int .i64 (stale * 60000000000)) ∧ Seen ks (dn ++ [κ]) (seen.push b) ∧ (best its i κ).isSome = true ∧ (wr.iterSeen r).size = dn.length ∧ dn.length < ks.length) := by
            obtain ⟨w1, hw1, rfl⟩ := hWx
            have hg1 : Grp its i stale Wb.heap.size m2 dn xs sv w1 ∧ w1.heap = wr.heap ∧ w1.os = wr.os ∧ w1.tape = wr.tape ∧ w1.output = wr.output := by
              rcases hw1 with rfl | rfl
              · exact ⟨h2.grp, rfl, rfl, rfl, rfl⟩
              · exact ⟨h2.grp.kept ((Below.refl _ _).drew) lmm, rfl, rfl, rfl, rfl⟩
            have hlt : r < w1.heap.size := by rw [hg1.2.1]; have := h2.fb.size; omega
            have hfb : Fb Wb.heap.size (fun g => g = m2 ∨ g = r) Wb (setB w1 r (.mapIter (some m) ks.length (seen.push b) ks.length)) := (h2.fb.trans ⟨hg1.2.2.1, hg1.2.2.2.1, hg1.2.2.2.2, by rw [hg1.2.1]; exact Nat.le_refl _, fun g _ _ => by rw [hg1.2.1]⟩).trans (Fb.setB r _ (Or.inr rfl))
            have cB : ∀ o, (setB w1 r (.mapIter (some m) ks.length (seen.push b) ks.length)).cell? ⟨B, o, none⟩ = Wb.cell? ⟨B, o, none⟩ := fun o => hfb.cell (by exact lB2) (by rintro (h | h); exact nB1 h; exact nB2 h)
            refine ⟨⟨hfb, setB_at _ hlt, hg1.1.setB r _ lr (Ne.symm nmr), ⟨by rw [cB]; exact HWB.out.2.1.c0, by rw [cB]; exact HWB.out.2.1.c1, by rw [cB]; exact HWB.out.2.1.c2⟩, by rw [hfb.cell (by exact lA2) (by rintro (h | h); exact nA1 h; exact nA2 h)]; exact HWB.out.2.2.1, hseen, hbs, by rw [iter_seen h2.it]; exact h2.seen.size, ?_⟩⟩
            have := nodup_len (dn ++ [κ]) ks ?_ hseen.sub
            · simp at this; omega
            · have hd := hseen.nodup HWB.out.2.2.2.1
              exact hd
          obtain ⟨j, hj⟩ : ∃ j, j = bj its i κ := ⟨_, rfl⟩
          have hfv : bv its i κ = qv (its j) j := by unfold bv; rw [hj]; rfl
          rw [hfv] at hnext hentry
          unfold kval kv qv qc at hnext hentry
          have HJ := hide hj
          clear hj hfv hmap h2 hWx hseen
          go_upto_region 15 with fail
          obtain ⟨V3, hV3, hK3, hQ3, hb3⟩ := lay2 W κ (its j) j
          rw [← hV3]
          obtain ⟨kb, hkb⟩ : ∃ x, x = W.heap.size := ⟨_, rfl⟩
          obtain ⟨q, hq⟩ : ∃ x, x = W.heap.size + 1 := ⟨_, rfl⟩
          rw [← hkb] at hK3
          rw [← hq] at hQ3
          rw [← hq, ← hkb]
          have HQ3 := hide hQ3
          have HK3 := hide hK3
          have HT3 : Hid (T3 V3 B 3600000) := ⟨HG.out.2.2.2.1.below hb3⟩
          have HA3 : Hid (V3.cell? ⟨A, 0, none⟩ = some (.int .i64 (stale * 60000000000))) := ⟨by
            have h := HG.out.2.2.2.2.1
            rw [hb3.cell (by exact World.block_lt_of_cell? _ _ h)]; exact h⟩
          have HB3 := hide hb3
          have hoj : (its j).ok := HR.out.1 j (by
            obtain ⟨j', hj'⟩ := Option.isSome_iff_exists.1 hbs
            have := HJ.out
            unfold bj at this
            rw [hj'] at this
            simp at this
            rw [this]
            exact (best_some hj').1)
          have hsub := fun w => sub_any 3600000 (its j).tm w (by unfold It.tm; have := hoj.q0; have := hoj.q1; omega) (by unfold It.tm; have := hoj.q0; have := hoj.q1; omega) (by omega) (by unfold It.tm; have := hoj.q0; have := hoj.q1; omega)
          have HSUB := hide hsub
          have hus : us its i stale κ = (decide ((3600000 - (its j).tm) * 1000000000 ≤ stale * 60000000000) && decide (0 < (its j).bid)) := by
            unfold us
            rw [← HJ.out]
            congr 1
            unfold It.tm
            by_cases h : -(its j).qt ≤ stale
            · simp [h]; omega
            · simp [h]; omega
          have HUS := hide hus
          clear hnext hentry hV3 hkb hq hK3 hQ3 hb3 hsub hus hoj
          go_cut [90] (fun s wc => s = .bool (us its i stale κ) ∧ Below V3.heap.size V3 wc)
          case first =>
            go_wp2_with fail
            obtain ⟨s1, s2, s3, s4, s5, s6, s7, s8, s9⟩ := S9 HQ3.out HT3.out HA3.out (Below.refl _ _)
            by_cases hd : (3600000 - (its j).tm) * 1000000000 ≤ stale * 60000000000
            · have hd' : decide ((3600000 - (its j).tm) * 1000000000 ≤ stale * 60000000000) = true := by simp [hd]
              clear hd
              go_region_held3 (fun w' => w'.cell? ⟨B, 0, none⟩ = some (.int .u64 0) ∧ w'.cell? ⟨B, 1, none⟩ = some (.int .i64 3600000) ∧ w'.cell? ⟨B, 2, none⟩ = some (.pointer none) ∧ w'.cell? ⟨A, 0, none⟩ = some (.int .i64 (stale * 60000000000)) ∧ w'.cell? ⟨q, 0, none⟩ = some (.int .u64 0) ∧ w'.cell? ⟨q, 1, none⟩ = some (.int .i64 (its j).tm) ∧ w'.cell? ⟨q, 2, none⟩ = some (.pointer none) ∧ w'.cell? ⟨q, 10, none⟩ = some (.int .i64 (its j).bid) ∧ w'.cell? ⟨q, 11, none⟩ = some (.int .i64 0)) (first | exact S9 HQ3.out HT3.out HA3.out HB6.out | exact S9 HQ3.out HT3.out HA3.out HB5.out | exact S9 HQ3.out HT3.out HA3.out ((Below.refl _ _).drew))
                (first
                  | (go_at_call 14; refine (HSUB.out _).mono ?_; rintro e w5 ⟨rfl, hb5⟩; have HB5 := hide (un_drew hb5); clear hb5)
                  | (go_at_call 15; refine (sign_any _ _ _).mono ?_; rintro e w6 ⟨⟨sg, rfl, hsg⟩, hb6⟩; have HB6 := hide (HB5.out.trans (hb6.mono HB5.out.size)); have HSG := hide hsg; clear hb6 hsg))
              all_goals go_wp2
              all_goals go_meet
              all_goals exact ⟨by rw [HUS.out, hd', Bool.true_and]; congr 1; exact decide_eq_decide.2 HSG.out, HB6.out⟩
            · have hd' : decide ((3600000 - (its j).tm) * 1000000000 ≤ stale * 60000000000) = false := by simp [hd]
              clear hd
              refine wp_region_held_drew (S := (fun w' => w'.cell? ⟨B, 0, none⟩ = some (.int .u64 0) ∧ w'.cell? ⟨B, 1, none⟩ = some (.int .i64 3600000) ∧ w'.cell? ⟨B, 2, none⟩ = some (.pointer none) ∧ w'.cell? ⟨A, 0, none⟩ = some (.int .i64 (stale * 60000000000)) ∧ w'.cell? ⟨q, 0, none⟩ = some (.int .u64 0) ∧ w'.cell? ⟨q, 1, none⟩ = some (.int .i64 (its j).tm) ∧ w'.cell? ⟨q, 2, none⟩ = some (.pointer none) ∧ w'.cell? ⟨q, 10, none⟩ = some (.int .i64 (its j).bid) ∧ w'.cell? ⟨q, 11, none⟩ = some (.int .i64 0))) (by kernel_rfl) (S9 HQ3.out HT3.out HA3.out ((Below.refl _ _).drew)) (fun hHeld => ?_)
              refine wpAnyH_take (i := 0) (v := ?_) rfl (by kernel_rfl) (by kernel_rfl) (by kernel_rfl) (fun _ _ _ h => h) (Or.inl ⟨by rfl, ?hy0⟩) hHeld ?_
              case hy0 => intro w hSw; obtain ⟨z1, z2, z3, z4, z5, z6, z7, z8, z9⟩ := hSw; go_simp; first | done | (with_reducible rfl)
              simp only [Act.put, List.getElem_toArray, List.getElem_cons_zero, List.getElem_cons_succ, List.setIfInBounds_toArray, List.set_cons_zero, List.set_cons_succ]
              refine wpAnyH_take (i := 1) (v := ?_) rfl (by kernel_rfl) (by kernel_rfl) (by kernel_rfl) (fun _ _ _ h => h) (Or.inl ⟨by rfl, ?hy1⟩) hHeld ?_
              case hy1 => intro w hSw; obtain ⟨z1, z2, z3, z4, z5, z6, z7, z8, z9⟩ := hSw; go_simp; first | done | (with_reducible rfl)
              simp only [Act.put, List.getElem_toArray, List.getElem_cons_zero, List.getElem_cons_succ, List.setIfInBounds_toArray, List.set_cons_zero, List.set_cons_succ]
              refine wpAnyH_take (i := 2) (v := ?_) rfl (by kernel_rfl) (by kernel_rfl) (by kernel_rfl) (fun _ _ _ h => h) (Or.inl ⟨by rfl, ?hy2⟩) hHeld ?_
              case hy2 => intro w hSw; obtain ⟨z1, z2, z3, z4, z5, z6, z7, z8, z9⟩ := hSw; go_simp; first | done | (with_reducible rfl)
              simp only [Act.put, List.getElem_toArray, List.getElem_cons_zero, List.getElem_cons_succ, List.setIfInBounds_toArray, List.set_cons_zero, List.set_cons_succ]
              refine wpAnyH_take (i := 4) (v := ?_) rfl (by kernel_rfl) (by kernel_rfl) (by kernel_rfl) (fun _ _ _ h => h) (Or.inl ⟨by rfl, ?hy4⟩) hHeld ?_
              case hy4 => intro w hSw; obtain ⟨z1, z2, z3, z4, z5, z6, z7, z8, z9⟩ := hSw; go_simp; first | done | (with_reducible rfl)
              simp only [Act.put, List.getElem_toArray, List.getElem_cons_zero, List.getElem_cons_succ, List.setIfInBounds_toArray, List.set_cons_zero, List.set_cons_succ]
              refine wpAnyH_take (i := 5) (v := ?_) rfl (by kernel_rfl) (by kernel_rfl) (by kernel_rfl) (fun _ _ _ h => h) (Or.inl ⟨by rfl, ?hy5⟩) hHeld ?_
              case hy5 => intro w hSw; obtain ⟨z1, z2, z3, z4, z5, z6, z7, z8, z9⟩ := hSw; go_simp; first | done | (with_reducible rfl)
              simp only [Act.put, List.getElem_toArray, List.getElem_cons_zero, List.getElem_cons_succ, List.setIfInBounds_toArray, List.set_cons_zero, List.set_cons_succ]
              refine wpAnyH_ready (rs := [3]) (by kernel_rfl) (by simp) ?_
              refine AllReadyH.cons rfl (fun K hK => ?_) AllReadyH.nil
              rw [if_pos (by rfl)]
              go_simp
              refine (HSUB.out _).mono ?_
              rintro e w5 ⟨rfl, hb5⟩
              have HB5 := hide (un_drew hb5)
              clear hb5 hHeld
              refine hK.out _ _ (S9 HQ3.out HT3.out HA3.out HB5.out) (fun hHeld => ?_)
              try simp only [Act.put, List.getElem_toArray, List.getElem_cons_zero, List.getElem_cons_succ, List.setIfInBounds_toArray, List.set_cons_zero, List.set_cons_succ]
              refine wpAnyH_take (i := 6) (v := ?_) rfl (by kernel_rfl) (by kernel_rfl) (by kernel_rfl) (fun _ _ _ h => h) (Or.inl ⟨by rfl, ?hy6⟩) hHeld ?_
              case hy6 => intro w hSw; obtain ⟨z1, z2, z3, z4, z5, z6, z7, z8, z9⟩ := hSw; go_simp; first | done | (with_reducible rfl)
              simp only [Act.put, List.getElem_toArray, List.getElem_cons_zero, List.getElem_cons_succ, List.setIfInBounds_toArray, List.set_cons_zero, List.set_cons_succ]
              refine wpAnyH_take (i := 7) (v := ?_) rfl (by kernel_rfl) (by kernel_rfl) (by kernel_rfl) (fun _ _ _ h => h) (Or.inl ⟨by rfl, ?hy7⟩) hHeld ?_
              case hy7 => intro w hSw; obtain ⟨z1, z2, z3, z4, z5, z6, z7, z8, z9⟩ := hSw; go_simp; first | done | (with_reducible rfl)
              simp only [Act.put, List.getElem_toArray, List.getElem_cons_zero, List.getElem_cons_succ, List.setIfInBounds_toArray, List.set_cons_zero, List.set_cons_succ]
              refine wpAnyH_take (i := 8) (oi := { dst := some 86, op := Op.fieldAddr 42 (Operand.tmp 15) 2, type := 0, pos := "volatility.go:332", after := #[{ on := 7, ground := Ground.guard }], guard := some (7, true) }) (v := undef) rfl (by kernel_rfl) (by kernel_rfl) (by kernel_rfl) (fun _ _ _ h => h) (Or.inr ⟨by rfl, rfl⟩) hHeld ?_
              simp only [Act.put, List.getElem_toArray, List.getElem_cons_zero, List.getElem_cons_succ, List.setIfInBounds_toArray, List.set_cons_zero, List.set_cons_succ]
              refine wpAnyH_take (i := 9) (oi := { dst := some 87, op := Op.load 31 (Operand.tmp 86), type := 31, pos := "volatility.go:332", after := #[{ on := 8, ground := Ground.data }, { on := 7, ground := Ground.guard }], guard := some (7, true) }) (v := undef) rfl (by kernel_rfl) (by kernel_rfl) (by kernel_rfl) (fun _ _ _ h => h) (Or.inr ⟨by rfl, rfl⟩) hHeld ?_
              simp only [Act.put, List.getElem_toArray, List.getElem_cons_zero, List.getElem_cons_succ, List.setIfInBounds_toArray, List.set_cons_zero, List.set_cons_succ]
              refine wpAnyH_take (i := 10) (oi := { dst := some 88, op := Op.call { callee := Callee.value (Operand.func 15), args := #[Operand.tmp 87], argTypes := #[31] }, type := 3, pos := "volatility.go:332", after := #[{ on := 9, ground := Ground.data }, { on := 7, ground := Ground.chain }, { on := 7, ground := Ground.guard }], guard := some (7, true) }) (v := undef) rfl (by kernel_rfl) (by kernel_rfl) (by kernel_rfl) (fun _ _ _ h => h) (Or.inr ⟨by rfl, rfl⟩) hHeld ?_
              simp only [Act.put, List.getElem_toArray, List.getElem_cons_zero, List.getElem_cons_succ, List.setIfInBounds_toArray, List.set_cons_zero, List.set_cons_succ]
              refine wpAnyH_take (i := 11) (oi := { dst := some 89, op := Op.binOp BinOp.gtr 3 (Operand.tmp 88) (Operand.const (Value.int IntKind.i64 0)) 3, type := 4, pos := "volatility.go:332", after := #[{ on := 10, ground := Ground.data }, { on := 7, ground := Ground.guard }], guard := some (7, true) }) (v := undef) rfl (by kernel_rfl) (by kernel_rfl) (by kernel_rfl) (fun _ _ _ h => h) (Or.inr ⟨by rfl, rfl⟩) hHeld ?_
              simp only [Act.put, List.getElem_toArray, List.getElem_cons_zero, List.getElem_cons_succ, List.setIfInBounds_toArray, List.set_cons_zero, List.set_cons_succ]
              refine wpAnyH_take (i := 12) (oi := { dst := some 90, op := Op.pick (Operand.tmp 85) (Operand.tmp 89) (Operand.const (Value.bool false)), type := 4, pos := "volatility.go:332", after := #[{ on := 7, ground := Ground.data }, { on := 11, ground := Ground.data }], guard := none }) (v := ?_) rfl (by kernel_rfl) (by kernel_rfl) (by kernel_rfl) (fun _ _ _ h => h) (Or.inl ⟨by rfl, ?hy12⟩) hHeld ?_
              case hy12 => intro w hSw; obtain ⟨z1, z2, z3, z4, z5, z6, z7, z8, z9⟩ := hSw; go_simp; first | done | (with_reducible rfl)
              simp only [Act.put, List.getElem_toArray, List.getElem_cons_zero, List.getElem_cons_succ, List.setIfInBounds_toArray, List.set_cons_zero, List.set_cons_succ]
              refine wpAnyH_done (by kernel_rfl) ?_ _
              go_wp2
              go_meet
              all_goals exact ⟨by rw [HUS.out, hd', Bool.false_and], HB5.out⟩
          case rest =>
            obtain ⟨hs90, hbc⟩ := hcut
            subst hs90
            have hbw : Below W.heap.size W wc := HB3.out.trans (hbc.mono HB3.out.size)
            have HC : Hid (Fb Wb.heap.size (fun g => g = m2 ∨ g = r) Wb wc ∧ wc.heap[r]? = some (.mapIter (some m) ks.length (seen.push b) ks.length) ∧ Grp its i stale Wb.heap.size m2 dn xs sv wc) := by
              have hle := HG.out.1.size
              exact ⟨⟨HG.out.1.trans (Fb.of_below (hbw.mono hle)), by rw [hbw.block r (by omega)]; exact HG.out.2.1, HG.out.2.2.1.kept hbw lmm⟩⟩
            have HQ4 := hide (HQ3.out.below hbc)
            have HK4 := hide (HK3.out.below hbc)
            clear hbw hbc HQ3 HK3 HT3 HA3 HB3 HSUB HUS
            cases hu : us its i stale κ with
            | false =>
              have HU := hide hu
              clear hu
              go_wp2
              go_roundw
              case rel => exact ⟨dn ++ [κ], seen.push b, xs, sv, HC.out.1, HC.out.2.1, HG.out.2.2.2.2.2.1, HC.out.2.2.skip HU.out HG.out.2.2.2.2.2.2.1⟩
              case measure =>
                rw [iter_seen HC.out.2.1]
                have h1 := HG.out.2.2.2.2.2.2.2.1
                have h2 := HG.out.2.2.2.2.2.2.2.2
                have h3 := HG.out.2.2.2.2.2.1.size
                simp at h3
                simp
                omega
            | true =>
              have HU := hide hu
              clear hu
              obtain ⟨q0, q1, q2, q3, q4, q5, q6, q7, q8, q9, q10, q11, q12, q13⟩ := HQ4.out
              simp only [Nat.zero_add] at q1 q2 q3 q4 q5 q6 q7 q8 q9 q10 q11 q12 q13
              obtain ⟨k0, k1, k2, k3, k4, k5⟩ := HK4.out
              obtain ⟨V4, hV4, hQ5, hb4⟩ := Q14.alloc wc (its j) j 42
              obtain ⟨qb2, hqb2⟩ : ∃ x, x = wc.heap.size := ⟨_, rfl⟩
              rw [← hqb2] at hQ5
              have hdl : dn.length ≤ 4000 := by have h1 := HG.out.2.2.2.2.2.2.2.2; have h2 := HWB.out.2.2.2.2.2; omega
              obtain ⟨v0, pos, W1, v1, W2', W3, xs', sv', e1, e2, e3, hg3, hf3⟩ := (HC.out.2.2.kept hb4 lmm).step lmm HU.out HG.out.2.2.2.2.2.2.1 hdl qb2 (by have := HC.out.1.size; omega) (by rw [← HJ.out]; exact hQ5.list)
              have HG3 : Hid (L2 its i stale Wb m m2 r ks (dn ++ [κ]) (seen.push b) xs' sv' W3) := ⟨by
                have hle := HC.out.1.size
                have f4 : Fb Wb.heap.size (fun g => g = m2 ∨ g = r) wc W3 := (Fb.of_below (hb4.mono hle)).trans ⟨hf3.os, hf3.tape, hf3.output, hf3.size, fun g h1 h2 => hf3.block g h1 (fun e => h2 (Or.inl e))⟩
                exact ⟨HC.out.1.trans f4, by rw [hf3.block r lr (fun e => nmr e.symm), hb4.block r (by omega)]; exact HC.out.2.1, HG.out.2.2.2.2.2.1, hg3⟩⟩
              rw [hV4] at e1
              rw [hqb2] at e2
              clear hV4 hqb2 hg3 hf3 hb4 hQ5
              have HE2 := hide e2
              clear e2
              go_wp2_with (first | (at_builtin; refine wpList_append_run rfl (.tmp 94) (.tmp 96) 34 34 rfl rfl _ _ _ rfl rfl HE2.out ?_))
              go_roundw
              case rel => exact ⟨dn ++ [κ], seen.push b, xs', sv', HG3.out⟩
              case measure =>
                rw [iter_seen HG3.out.it]
                have h1 := HG.out.2.2.2.2.2.2.2.1
                have h2 := HG.out.2.2.2.2.2.2.2.2
                have h3 := HG.out.2.2.2.2.2.1.size
                simp at h3
                simp
                omega
end Go.Proofs.YbulkcggyDoor
