import Derived.Test.YbulkcgfiS10
namespace Go.Proofs.Ybulkcgfi
open Go.RowKit
set_option linter.unusedVariables false
set_option linter.unusedSimpArgs false
set_option maxRecDepth 100000
theorem Fw.sc2 (W : World) (g i j : Nat) (xs ys : List Value) : Fw (fun t => t = g) W ((W.drew.setCells g i xs).setCells g j ys) := by
  have h1 := sc_os g xs i W.drew
  have h2 := sc_os g ys j (W.drew.setCells g i xs)
  exact ⟨h2.1.trans h1.1, h2.2.1.trans h1.2.1, h2.2.2.trans h1.2.2, by rw [sc_size, sc_size]; exact Nat.le_refl _, fun t _ ht => by rw [sc_other g _ _ _ t ht, sc_other g _ _ _ t ht]; rfl⟩
theorem Fw.cell {S : Nat → Prop} {w w' : World} (h : Fw S w w') {R o : Nat} (hR : R < w.heap.size) (hS : ¬ S R) : w'.cell? ⟨R, o, none⟩ = w.cell? ⟨R, o, none⟩ := by
  simp only [World.cell?]
  rw [h.block R hR hS]
theorem Fw.frozen {S : Nat → Prop} {w w' : World} (h : Fw S w w') {R o : Nat} (hR : R < w.heap.size) (hS : ¬ S R) : w'.frozen? ⟨R, o, none⟩ = w.frozen? ⟨R, o, none⟩ := by
  simp only [World.frozen?]
  rw [h.block R hR hS]
/-- A cell of another, new block is stored into. -/
theorem SR.setOther {w : World} {g : Nat} {d : Array ID} {wr : World} (h : SR w g d wr) {R : Nat} (hR : w.heap.size ≤ R) (hne : g ≠ R) (v : Value) (n : Nat) : SR w g d ((wr.setCell ⟨R, 0, none⟩ v).drewN n) :=
  ⟨⟨h.fw.os, h.fw.tape, h.fw.output, by show w.heap.size ≤ (wr.setCell ⟨R, 0, none⟩ v).heap.size; have := h.fw.size; simpa using this, fun t ht hS => by
      show (wr.setCell ⟨R, 0, none⟩ v).heap[t]? = _
      rw [Below.heap_setCell _ _ _ _ (by show t ≠ R; omega)]
      exact h.fw.block t ht hS⟩,
    fun x hx j u hu => by
      show (wr.setCell ⟨R, 0, none⟩ v).cell? _ = _
      rw [World.cell?_setCell_other _ _ _ _ (by intro e; injection e with e _ _; exact hne e.symm)]
      exact h.row x hx j u hu, h.ok, fun j => by
      show (wr.setCell ⟨R, 0, none⟩ v).frozen? _ = _
      rw [World.frozen?_setCell]
      exact h.fz j⟩
theorem xor_at {w : World} {g : Nat} {d : Array ID} {wr : World} (h : SR w g d wr) {R X : Nat} (hX : X < 18446744073709551616) (hR : w.heap.size ≤ R) (hne : g ≠ R) (hc : wr.cell? ⟨R, 0, none⟩ = some (.int .u64 X)) (hf : wr.frozen? ⟨R, 0, none⟩ = false) :
    Calls Yba.prog 28 #[.pointer (some ⟨R, 0, none⟩)] wr fun e w' => e = .returned (.int .u64 (Sort.xorNextN X : Nat)) ∧ SR w g d w' ∧ w'.cell? ⟨R, 0, none⟩ = some (.int .u64 (Sort.xorNextN X : Nat)) ∧ w'.frozen? ⟨R, 0, none⟩ = false := by
  refine (xor_any R 0 X hX wr hc hf).mono ?_
  rintro e w' ⟨rfl, rfl⟩
  refine ⟨rfl, h.setOther hR hne _ _, ?_, ?_⟩
  · show (wr.setCell _ _).cell? _ = _
    rw [World.cell?_setCell_same _ _ _ hc]
  · show (wr.setCell _ _).frozen? _ = _
    rw [World.frozen?_setCell]
    exact hf
/-- So many rounds are left; t have been made. -/
def bpR (a L M i0 : Nat) : Nat → Nat → UInt64 × Array ID → Array ID
  | 0, _, st => st.2
  | k + 1, t, st => bpR a L M i0 k (t + 1) (Sort.breakStep a L M st (i0 + t))
theorem bp_eq (d : Array ID) (a b L i0 : Nat) (hL : L = b - a) (h8 : 8 ≤ L) (hi : i0 = a + L / 4 * 2 - 1) : Sort.breakPatterns d a b = bpR a L (1 <<< Sort.bitsLen L) i0 3 0 (UInt64.ofNat L, d) := by
  unfold Sort.breakPatterns
  simp only
  rw [← hL, if_pos h8, ← hi]
  rfl
theorem bp_one (a L M i0 t : Nat) (r : UInt64) (d : Array ID) (o : Nat) (ht : t < 3) (ho : o = if (Sort.xorNext r).toNat &&& (M - 1) ≥ L then ((Sort.xorNext r).toNat &&& (M - 1)) - L else (Sort.xorNext r).toNat &&& (M - 1)) :
    bpR a L M i0 (3 - t) t (r, d) = bpR a L M i0 (3 - (t + 1)) (t + 1) (Sort.xorNext r, Sort.swp d (i0 + t) (a + o)) := by
  rw [show 3 - t = (3 - (t + 1)) + 1 by omega, bpR]
  unfold Sort.breakStep
  simp only [← ho]
set_option maxHeartbeats 8000000 in
theorem break_any (g cap a b : Nat) (d : Array ID) (w : World) (h0 : SR w g d w) (hg : g < w.heap.size) (hab : a + 13 ≤ b) (hb : b ≤ d.size) (hn : d.size ≤ 1024) :
    Calls Yba.prog 17 #[.slice (some ⟨g, 0, none⟩) d.size cap, .int .i64 a, .int .i64 b, .func (.func 8) #[] #[]] w fun e w' => e = .returned (.tuple #[]) ∧ SR w g (Sort.breakPatterns d a b) w' := by
  obtain ⟨R, hR⟩ : ∃ R, R = w.heap.size := ⟨_, rfl⟩
  obtain ⟨L, hL⟩ : ∃ L, L = b - a := ⟨_, rfl⟩
  obtain ⟨q, hq⟩ : ∃ q, q = L / 4 := ⟨_, rfl⟩
  obtain ⟨q2, hq2⟩ : ∃ q2, q2 = q * 2 := ⟨_, rfl⟩
  obtain ⟨p, hp⟩ : ∃ p, p = a + q2 := ⟨_, rfl⟩
  obtain ⟨i0, hi0⟩ : ∃ i0, i0 = p - 1 := ⟨_, rfl⟩
  obtain ⟨p1, hp1⟩ : ∃ p1, p1 = p + 1 := ⟨_, rfl⟩
  have m1 : IntKind.i64.wrap ((b : Int) - (a : Int)) = L := by rw [wrap_in _ (by omega) (by omega)]; omega
  have m3 : (L : Int) / 4 = q := by omega
  have m4 : (L : Int).tdiv 4 = q := by rw [Int.tdiv_eq_ediv_of_nonneg (by omega)]; omega
  have m5 : IntKind.i64.wrap (q : Int) = q := wrap_in _ (by omega) (by omega)
  have m6 : IntKind.i64.wrap ((q : Int) * 2) = q2 := by rw [wrap_in _ (by omega) (by omega)]; omega
  have m7 : IntKind.i64.wrap ((a : Int) + (q2 : Int)) = p := by rw [wrap_in _ (by omega) (by omega)]; omega
  have m8 : IntKind.i64.wrap ((p : Int) - 1) = i0 := by rw [wrap_in _ (by omega) (by omega)]; omega
  have m9 : IntKind.i64.wrap ((p : Int) + 1) = p1 := by rw [wrap_in _ (by omega) (by omega)]; omega
  have m10 : IntKind.u64.wrap (L : Int) = L := by rw [IntKind.wrap_u64]; omega
  have n8 : (8 : Int) ≤ L := by omega
  have hi2 : i0 + 2 < d.size := by omega
  have HI : Hid (p1 = i0 + 2) := ⟨by omega⟩
  have haL : a + L ≤ d.size := by omega
  have hLn : 8 ≤ L := by omega
  have hE := bp_eq d a b L i0 hL (by omega) (by rw [hi0, hp, hq2, hq])
  obtain ⟨M, hM⟩ : ∃ M : Nat, M = 1 <<< Sort.bitsLen L := ⟨_, rfl⟩
  have hM1 : 1 ≤ M := by rw [hM, Nat.one_shiftLeft]; exact Nat.two_pow_pos _
  have hM2 : M ≤ 2 * L := by rw [hM, Nat.one_shiftLeft]; exact Sort.two_pow_bitsLen_le (by omega)
  have HNP := hide (fun w => npow_any L (by omega) w)
  rw [← hM] at hE HNP
  obtain ⟨M', hM'⟩ : ∃ M' : Nat, M' = M - 1 := ⟨_, rfl⟩
  have m11 : IntKind.u64.wrap ((M : Int) - 1) = M' := by rw [IntKind.wrap_u64]; omega
  have m12 : (M : Int) - 1 = M' := by omega
  have HMM := hide hM'
  have hM3 : M' < 2 * L := by omega
  have HE := hide hE
  have hne : g ≠ R := by omega
  have hbel : Below w.heap.size w (w.alloc (.cells #[.int .u64 L] 51)) := (Below.refl _ _).alloc (Nat.le_refl _) _
  have HV : Hid (SR w g d (w.alloc (.cells #[.int .u64 L] 51)) ∧ (w.alloc (.cells #[.int .u64 L] 51)).cell? ⟨R, 0, none⟩ = some (.int .u64 L) ∧ (w.alloc (.cells #[.int .u64 L] 51)).frozen? ⟨R, 0, none⟩ = false) :=
    ⟨⟨h0.below hg hbel, by rw [hR, World.cell?_alloc_at _ _ _ _ rfl]; rfl, by rw [hR, World.frozen?_alloc_at _ _ _ _ rfl]⟩⟩
  have HRR := hide hR
  have hRle : w.heap.size ≤ R := by omega
  clear h0 hbel hL hq hq2 hp hi0 hp1 hE hM hM' hR
  go_enter Yba.func17, Yba.ntmps17
  go_upto_region 3 with fail
  rw [← HRR.out]
  obtain ⟨V, hV⟩ : ∃ V, V = w.alloc (.cells #[.int .u64 L] 51) := ⟨_, rfl⟩
  rw [← hV] at HV ⊢
  clear hV
  go_wp2_with (first | (go_at_call 27; refine (HNP.out _).mono ?_; rintro e w' ⟨rfl, rfl⟩))
  go_loopw [11] (fun iv wr => ∃ (t : Nat) (r : UInt64) (dk : Array ID), t ≤ 3 ∧ iv = .int .i64 ((i0 + t : Nat) : Int) ∧ dk.size = d.size ∧ SR w g dk wr ∧ wr.cell? ⟨R, 0, none⟩ = some (.int .u64 (r.toNat : Int)) ∧ wr.frozen? ⟨R, 0, none⟩ = false ∧ bpR a L M i0 (3 - t) t (r, dk) = Sort.breakPatterns d a b) (fun iv _ => i0 + 4 - (intOf iv).toNat)
  case atStart => exact ⟨0, UInt64.ofNat L, d, by omega, rfl, rfl, HV.out.1, by rw [HV.out.2.1, show (UInt64.ofNat L).toNat = L from by simp; omega], HV.out.2.2, HE.out.symm⟩
  case round =>
    obtain ⟨t, r, dk, ht, rfl, hdk, hS, hc, hf, hO⟩ := hrel
    have hgr : g < wr.heap.size := by have := hS.fw.size; omega
    obtain ⟨i, hi⟩ : ∃ i, i = i0 + t := ⟨_, rfl⟩
    rw [← hi]
    by_cases ht3 : t < 3
    · obtain ⟨X, hX⟩ : ∃ X, X = Sort.xorNextN r.toNat := ⟨_, rfl⟩
      have hXl : X < 18446744073709551616 := by rw [hX]; exact Sort.xorNextN_lt _ r.toNat_lt
      obtain ⟨O, hO2⟩ : ∃ O, O = X &&& M' := ⟨_, rfl⟩
      have hOl : O ≤ M' := by rw [hO2]; exact Nat.and_le_right
      have x1 : bits .and .u64 (X : Int) (M' : Int) = (O : Int) := by rw [bits_and_u64_nat _ _ hXl (by omega), hO2]
      have x2 : IntKind.i64.wrap (O : Int) = O := wrap_in _ (by omega) (by omega)
      obtain ⟨o, ho⟩ : ∃ o, o = if O ≥ L then O - L else O := ⟨_, rfl⟩
      have hol : o < L := by rw [ho]; split <;> omega
      obtain ⟨pj, hpj⟩ : ∃ pj, pj = a + o := ⟨_, rfl⟩
      have x3 : IntKind.i64.wrap ((a : Int) + (o : Int)) = pj := by rw [wrap_in _ (by omega) (by omega)]; omega
      have x4 : IntKind.i64.wrap ((i : Int) + 1) = (i : Int) + 1 := wrap_in _ (by omega) (by omega)
      have x5 : (i : Int) ≤ p1 := by have := HI.out; omega
      have x6 : i ≤ p1 := by have := HI.out; omega
      have HN := hide (xor_at hS (X := r.toNat) r.toNat_lt hRle hne hc hf)
      rw [← hX] at HN
      have HO : Hid (bpR a L M i0 (3 - (t + 1)) (t + 1) (Sort.xorNext r, Sort.swp dk i pj) = Sort.breakPatterns d a b) := ⟨by
        rw [← hO, bp_one a L M i0 t r dk o ht3 (by rw [Sort.xorNext_toNat, ← hX, ← HMM.out, ← hO2]; exact ho), ← hi, ← hpj]⟩
      have HX : Hid (X = (Sort.xorNext r).toNat) := ⟨by rw [Sort.xorNext_toNat]; exact hX⟩
      have hpl : pj < d.size := by omega
      have hil : i < d.size := by omega
      have HT := hide (And.intro ho hi)
      clear hS hc hf hO hX hO2 ho hpj hi
      go_upto_if 45 with (first | (go_at_call 28; refine HN.out.mono ?_; rintro e W1 ⟨rfl, hs1, hc1, hf1⟩; have HS1 := hide (And.intro hs1 (And.intro hc1 hf1)); clear hs1 hc1 hf1))
      go_cut [12] (fun s wc => s = .int .i64 o ∧ wc = W1)
      case first =>
        by_cases hLO : L ≤ O
        · have z : (L : Int) ≤ O := by omega
          obtain ⟨u, hu⟩ : ∃ u, u = O - L := ⟨_, rfl⟩
          have z2 : IntKind.i64.wrap ((O : Int) - (L : Int)) = u := by rw [wrap_in _ (by omega) (by omega)]; omega
          have z3 : (O : Int) - (L : Int) = u := by omega
          have HU : Hid (o = u) := ⟨by rw [HT.out.1, hu]; exact if_pos hLO⟩
          clear hu
          go_wp2
          go_meet
          exact ⟨by rw [HU.out], rfl⟩
        · have z : ¬ (L : Int) ≤ O := by omega
          have HU : Hid (o = O) := ⟨by rw [HT.out.1]; exact if_neg hLO⟩
          go_wp2
          go_meet
          exact ⟨by rw [HU.out], rfl⟩
      case rest =>
        obtain ⟨hs, hw⟩ := hcut
        subst hs
        subst hw
        obtain ⟨W2, rfl⟩ : ∃ W2, W2 = wc := ⟨_, rfl⟩
        have hg1 : g < W2.heap.size := by have := HS1.out.1.fw.size; omega
        have hSda := HS1.out.1.below hg1 ((Below.refl _ _).drew)
        have HSWa := hSda.swap (i := i) (j := pj) (by omega) (by omega)
        have r1a := hSda.row pj (by omega)
        have r0a := hSda.row i (by omega)
        have o1a := hSda.ok pj (by omega)
        have o0a := hSda.ok i (by omega)
        have t0a := hSda.there (x := i) (by omega)
        have t1a := (hSda.store (i := i) (by omega) dk[pj]! o1a).there (x := pj) (by rw [Array.size_setIfInBounds]; omega)
        obtain ⟨xa, hxa⟩ : ∃ x, x = dk[pj]! := ⟨_, rfl⟩
        obtain ⟨ya, hya⟩ : ∃ y, y = dk[i]! := ⟨_, rfl⟩
        rw [← hxa] at r1a o1a t1a
        rw [← hya] at r0a o0a
        rw [← hxa, ← hya] at HSWa
        have HSWa := hide HSWa
        have b1a : ((pj : Nat) : Int) < d.size := by omega
        have b0a : ((i : Nat) : Int) < d.size := by omega
        have b3a : pj < d.size := by omega
        have b2a : i < d.size := by omega
        have s1a : (Yba.prog.info? 26).map (·.size) = some (idc xa).length := by rw [idc_len, o1a]; exact info26
        have s0a : (Yba.prog.info? 26).map (·.size) = some (idc ya).length := by rw [idc_len, o0a]; exact info26
        have l1a : (idc xa).length = 32 := by rw [idc_len, o1a]
        have l0a : (idc ya).length = 32 := by rw [idc_len, o0a]
        have HRTa := hide (And.intro r1a (And.intro r0a (And.intro t0a t1a)))
        clear hxa hya r1a r0a t0a t1a hSda
        go_upto_region 10 with fail

        

        refine wp_region_any (by kernel_rfl) ?_
        change wpAny _ _ _ _ _ _ _ (World.drew _)
        refine wpAny_take (i := 0) (v := ?v0) rfl (by kernel_rfl) (by kernel_rfl) (by kernel_rfl) (fun _ _ _ h => h) (Or.inl ⟨by rfl, ?hy0⟩) ?_
        case hy0 => intro w; go_simp; first | done | (with_reducible rfl)
        simp only [Act.put, List.getElem_toArray, List.getElem_cons_zero, List.getElem_cons_succ, List.setIfInBounds_toArray, List.set_cons_zero, List.set_cons_succ]
        refine wpAny_take (i := 1) (v := ?v1) rfl (by kernel_rfl) (by kernel_rfl) (by kernel_rfl) (fun _ _ _ h => h) (Or.inl ⟨by rfl, ?hy1⟩) ?_
        case hy1 => intro w; go_simp; first | done | (with_reducible rfl)
        simp only [Act.put, List.getElem_toArray, List.getElem_cons_zero, List.getElem_cons_succ, List.setIfInBounds_toArray, List.set_cons_zero, List.set_cons_succ]
        refine wpAny_take (i := 2) (v := ?v2) rfl (by kernel_rfl) (by kernel_rfl) (by kernel_rfl) (fun _ _ _ h => h) (Or.inl ⟨by rfl, ?hy2⟩) ?_
        case hy2 => intro w; go_simp; first | done | (with_reducible rfl)
        simp only [Act.put, List.getElem_toArray, List.getElem_cons_zero, List.getElem_cons_succ, List.setIfInBounds_toArray, List.set_cons_zero, List.set_cons_succ]
        refine wpAny_take (i := 3) (v := ?v3) rfl (by kernel_rfl) (by kernel_rfl) (by kernel_rfl) (fun _ _ _ h => h) (Or.inl ⟨by rfl, ?hy3⟩) ?_
        case hy3 => intro w; go_simp; first | done | (with_reducible rfl)
        simp only [Act.put, List.getElem_toArray, List.getElem_cons_zero, List.getElem_cons_succ, List.setIfInBounds_toArray, List.set_cons_zero, List.set_cons_succ]
        refine wpAny_take (i := 4) (v := ?v4) rfl (by kernel_rfl) (by kernel_rfl) (by kernel_rfl) (fun _ _ _ h => h) (Or.inl ⟨by rfl, ?hy4⟩) ?_
        case hy4 => intro w; go_simp; first | done | (with_reducible rfl)
        simp only [Act.put, List.getElem_toArray, List.getElem_cons_zero, List.getElem_cons_succ, List.setIfInBounds_toArray, List.set_cons_zero, List.set_cons_succ]
        refine wpAny_take (i := 5) (v := ?v5) rfl (by kernel_rfl) (by kernel_rfl) (by kernel_rfl) (fun _ _ _ h => h) (Or.inl ⟨by rfl, ?hy5⟩) ?_
        case hy5 => intro w; go_simp; first | done | (with_reducible rfl)
        simp only [Act.put, List.getElem_toArray, List.getElem_cons_zero, List.getElem_cons_succ, List.setIfInBounds_toArray, List.set_cons_zero, List.set_cons_succ]
        refine wpAny_take (i := 6) (v := ?v6) rfl (by kernel_rfl) (by kernel_rfl) (by kernel_rfl) (fun _ _ _ h => h) (Or.inl ⟨by rfl, ?hy6⟩) ?_
        case hy6 => intro w; go_simp; first | done | (with_reducible rfl)
        simp only [Act.put, List.getElem_toArray, List.getElem_cons_zero, List.getElem_cons_succ, List.setIfInBounds_toArray, List.set_cons_zero, List.set_cons_succ]
        refine wpAny_take (i := 7) (v := ?v7) rfl (by kernel_rfl) (by kernel_rfl) (by kernel_rfl) (fun _ _ _ h => h) (Or.inl ⟨by rfl, ?hy7⟩) ?_
        case hy7 => intro w; go_simp; first | done | (with_reducible rfl)
        simp only [Act.put, List.getElem_toArray, List.getElem_cons_zero, List.getElem_cons_succ, List.setIfInBounds_toArray, List.set_cons_zero, List.set_cons_succ]
        refine wpAny_take (i := 8) (v := ?v8) rfl (by kernel_rfl) (by kernel_rfl) (by kernel_rfl) (fun _ _ _ h => h) (Or.inl ⟨by rfl, ?hy8⟩) ?_
        case hy8 => intro w; go_simp; first | done | (with_reducible rfl)
        simp only [Act.put, List.getElem_toArray, List.getElem_cons_zero, List.getElem_cons_succ, List.setIfInBounds_toArray, List.set_cons_zero, List.set_cons_succ]
        refine wpAny_take (i := 9) (v := ?v9) rfl (by kernel_rfl) (by kernel_rfl) (by kernel_rfl) (fun _ _ _ h => h) (Or.inl ⟨by rfl, ?hy9⟩) ?_
        case hy9 => intro w; go_simp; first | done | (with_reducible rfl)
        simp only [Act.put, List.getElem_toArray, List.getElem_cons_zero, List.getElem_cons_succ, List.setIfInBounds_toArray, List.set_cons_zero, List.set_cons_succ]
        refine wpAny_take (i := 10) (v := ?v10) rfl (by kernel_rfl) (by kernel_rfl) (by kernel_rfl) (fun _ _ _ h => h) (Or.inl ⟨by rfl, ?hy10⟩) ?_
        case hy10 => intro w; go_simp; first | done | (with_reducible rfl)
        simp only [Act.put, List.getElem_toArray, List.getElem_cons_zero, List.getElem_cons_succ, List.setIfInBounds_toArray, List.set_cons_zero, List.set_cons_succ]
        refine wpAny_take (i := 12) (v := ?v12) rfl (by kernel_rfl) (by kernel_rfl) (by kernel_rfl) (fun _ _ _ h => h) (Or.inl ⟨by rfl, ?hy12⟩) ?_
        case hy12 => intro w; go_simp; first | done | (with_reducible rfl)
        simp only [Act.put, List.getElem_toArray, List.getElem_cons_zero, List.getElem_cons_succ, List.setIfInBounds_toArray, List.set_cons_zero, List.set_cons_succ]
        refine wpAny_take (i := 13) (v := ?v13) rfl (by kernel_rfl) (by kernel_rfl) (by kernel_rfl) (fun _ _ _ h => h) (Or.inl ⟨by rfl, ?hy13⟩) ?_
        case hy13 => intro w; go_simp; first | done | (with_reducible rfl)
        simp only [Act.put, List.getElem_toArray, List.getElem_cons_zero, List.getElem_cons_succ, List.setIfInBounds_toArray, List.set_cons_zero, List.set_cons_succ]
        refine wpAny_take (i := 14) (v := ?v14) rfl (by kernel_rfl) (by kernel_rfl) (by kernel_rfl) (fun _ _ _ h => h) (Or.inl ⟨by rfl, ?hy14⟩) ?_
        case hy14 => intro w; go_simp; first | done | (with_reducible rfl)
        simp only [Act.put, List.getElem_toArray, List.getElem_cons_zero, List.getElem_cons_succ, List.setIfInBounds_toArray, List.set_cons_zero, List.set_cons_succ]
        refine wpAny_ready (rs := [11, 15]) (by kernel_rfl) (by simp) ?_
        refine AllReady.cons rfl (fun K hK => ?_) (AllReady.cons rfl (fun K hK => ?_) AllReady.nil)
        · rw [if_pos (by rfl)]
          refine wp_load_mid 26 (.tmp 59) rfl g (pj * 32) rfl (idc xa) _ (HRTa.out.1) Yba.underlying26 rfl s1a ?_
          refine hK _ _ ?_
          clear hK K
          simp only [Act.put, List.getElem_toArray, List.getElem_cons_zero, List.getElem_cons_succ, List.setIfInBounds_toArray, List.set_cons_zero, List.set_cons_succ]
          refine wpAny_ready (rs := [15]) (by kernel_rfl) (by simp) ?_
          refine AllReady.cons rfl (fun K hK => ?_) AllReady.nil
          rw [if_pos (by rfl)]
          refine wp_load_mid 26 (.tmp 63) rfl g (i * 32) rfl (idc ya) _ (HRTa.out.2.1) Yba.underlying26 rfl s0a ?_
          refine hK _ _ ?_
          clear hK K
          simp only [Act.put, List.getElem_toArray, List.getElem_cons_zero, List.getElem_cons_succ, List.setIfInBounds_toArray, List.set_cons_zero, List.set_cons_succ]
          refine wpAny_take (i := 16) (v := ?v16) rfl (by kernel_rfl) (by kernel_rfl) (by kernel_rfl) (fun _ _ _ h => h) (Or.inl ⟨by rfl, ?hy16⟩) ?_
          case hy16 => intro w; go_simp; first | done | (with_reducible rfl)
          simp only [Act.put, List.getElem_toArray, List.getElem_cons_zero, List.getElem_cons_succ, List.setIfInBounds_toArray, List.set_cons_zero, List.set_cons_succ]
          refine wpAny_ready (rs := [17]) (by kernel_rfl) (by simp) ?_
          refine AllReady.cons rfl (fun K hK => ?_) AllReady.nil
          rw [if_pos (by rfl)]
          refine wp_store_mid 26 (.tmp 65) (.tmp 60) rfl g (i * 32) (idc xa).toArray rfl rfl (by rw [List.size_toArray, l1a]; exact HRTa.out.2.2.1) (by rw [List.size_toArray]; exact s1a) (by simpa using idc_one xa) ?_
          refine hK _ _ ?_
          clear hK K
          simp only [Act.put, List.getElem_toArray, List.getElem_cons_zero, List.getElem_cons_succ, List.setIfInBounds_toArray, List.set_cons_zero, List.set_cons_succ]
          refine wpAny_take (i := 18) (v := ?v18) rfl (by kernel_rfl) (by kernel_rfl) (by kernel_rfl) (fun _ _ _ h => h) (Or.inl ⟨by rfl, ?hy18⟩) ?_
          case hy18 => intro w; go_simp; first | done | (with_reducible rfl)
          simp only [Act.put, List.getElem_toArray, List.getElem_cons_zero, List.getElem_cons_succ, List.setIfInBounds_toArray, List.set_cons_zero, List.set_cons_succ]
          refine wpAny_ready (rs := [19]) (by kernel_rfl) (by simp) ?_
          refine AllReady.cons rfl (fun K hK => ?_) AllReady.nil
          rw [if_pos (by rfl)]
          refine wp_store_mid 26 (.tmp 66) (.tmp 64) rfl g (pj * 32) (idc ya).toArray rfl rfl (by rw [List.size_toArray, l0a]; exact HRTa.out.2.2.2) (by rw [List.size_toArray]; exact s0a) (by simpa using idc_one ya) ?_
          refine hK _ _ ?_
          clear hK K
          simp only [Act.put, List.getElem_toArray, List.getElem_cons_zero, List.getElem_cons_succ, List.setIfInBounds_toArray, List.set_cons_zero, List.set_cons_succ]
          refine wpAny_done (by kernel_rfl) ?_ _
          obtain ⟨wc, hcut⟩ : ∃ wc, SR w g (Sort.swp dk i pj) wc ∧ Fw (fun t => t = g) W2 wc ∧ wc = ((W2.drew.setCells g (i * 32) (idc xa)).setCells g (pj * 32) (idc ya)) := ⟨_, HSWa.out, Fw.sc2 _ _ _ _ _ _, rfl⟩
          rw [← hcut.2.2]
          have HSa := hide hcut.1
          have hga : g < wc.heap.size := by have := hcut.2.1.size; have := hg1; omega
          have HFWa := hide hcut.2.1
          clear hcut HSWa HRTa
          have hRl : R < W2.heap.size := World.block_lt_of_cell? _ _ HS1.out.2.1
          have HC : Hid (wc.cell? ⟨R, 0, none⟩ = some (.int .u64 ((Sort.xorNext r).toNat : Int)) ∧ wc.frozen? ⟨R, 0, none⟩ = false) := ⟨by
            rw [HFWa.out.cell hRl (fun h => hne h.symm), HFWa.out.frozen hRl (fun h => hne h.symm), ← HX.out]
            exact HS1.out.2⟩
          go_wp2
          go_roundw
          case rel => exact ⟨t + 1, Sort.xorNext r, Sort.swp dk i pj, by omega, by rw [HT.out.2]; rfl, by rw [size_swp']; exact hdk, HSa.out, HC.out.1, HC.out.2, HO.out⟩
          case measure => have := HT.out.2; simp [intOf] <;> omega
        · rw [if_pos (by rfl)]
          refine wp_load_mid 26 (.tmp 63) rfl g (i * 32) rfl (idc ya) _ (HRTa.out.2.1) Yba.underlying26 rfl s0a ?_
          refine hK _ _ ?_
          clear hK K
          simp only [Act.put, List.getElem_toArray, List.getElem_cons_zero, List.getElem_cons_succ, List.setIfInBounds_toArray, List.set_cons_zero, List.set_cons_succ]
          refine wpAny_ready (rs := [11]) (by kernel_rfl) (by simp) ?_
          refine AllReady.cons rfl (fun K hK => ?_) AllReady.nil
          rw [if_pos (by rfl)]
          refine wp_load_mid 26 (.tmp 59) rfl g (pj * 32) rfl (idc xa) _ (HRTa.out.1) Yba.underlying26 rfl s1a ?_
          refine hK _ _ ?_
          clear hK K
          simp only [Act.put, List.getElem_toArray, List.getElem_cons_zero, List.getElem_cons_succ, List.setIfInBounds_toArray, List.set_cons_zero, List.set_cons_succ]
          refine wpAny_take (i := 16) (v := ?v16) rfl (by kernel_rfl) (by kernel_rfl) (by kernel_rfl) (fun _ _ _ h => h) (Or.inl ⟨by rfl, ?hy16⟩) ?_
          case hy16 => intro w; go_simp; first | done | (with_reducible rfl)
          simp only [Act.put, List.getElem_toArray, List.getElem_cons_zero, List.getElem_cons_succ, List.setIfInBounds_toArray, List.set_cons_zero, List.set_cons_succ]
          refine wpAny_ready (rs := [17]) (by kernel_rfl) (by simp) ?_
          refine AllReady.cons rfl (fun K hK => ?_) AllReady.nil
          rw [if_pos (by rfl)]
          refine wp_store_mid 26 (.tmp 65) (.tmp 60) rfl g (i * 32) (idc xa).toArray rfl rfl (by rw [List.size_toArray, l1a]; exact HRTa.out.2.2.1) (by rw [List.size_toArray]; exact s1a) (by simpa using idc_one xa) ?_
          refine hK _ _ ?_
          clear hK K
          simp only [Act.put, List.getElem_toArray, List.getElem_cons_zero, List.getElem_cons_succ, List.setIfInBounds_toArray, List.set_cons_zero, List.set_cons_succ]
          refine wpAny_take (i := 18) (v := ?v18) rfl (by kernel_rfl) (by kernel_rfl) (by kernel_rfl) (fun _ _ _ h => h) (Or.inl ⟨by rfl, ?hy18⟩) ?_
          case hy18 => intro w; go_simp; first | done | (with_reducible rfl)
          simp only [Act.put, List.getElem_toArray, List.getElem_cons_zero, List.getElem_cons_succ, List.setIfInBounds_toArray, List.set_cons_zero, List.set_cons_succ]
          refine wpAny_ready (rs := [19]) (by kernel_rfl) (by simp) ?_
          refine AllReady.cons rfl (fun K hK => ?_) AllReady.nil
          rw [if_pos (by rfl)]
          refine wp_store_mid 26 (.tmp 66) (.tmp 64) rfl g (pj * 32) (idc ya).toArray rfl rfl (by rw [List.size_toArray, l0a]; exact HRTa.out.2.2.2) (by rw [List.size_toArray]; exact s0a) (by simpa using idc_one ya) ?_
          refine hK _ _ ?_
          clear hK K
          simp only [Act.put, List.getElem_toArray, List.getElem_cons_zero, List.getElem_cons_succ, List.setIfInBounds_toArray, List.set_cons_zero, List.set_cons_succ]
          refine wpAny_done (by kernel_rfl) ?_ _
          obtain ⟨wc, hcut⟩ : ∃ wc, SR w g (Sort.swp dk i pj) wc ∧ Fw (fun t => t = g) W2 wc ∧ wc = ((W2.drew.setCells g (i * 32) (idc xa)).setCells g (pj * 32) (idc ya)) := ⟨_, HSWa.out, Fw.sc2 _ _ _ _ _ _, rfl⟩
          rw [← hcut.2.2]
          have HSa := hide hcut.1
          have hga : g < wc.heap.size := by have := hcut.2.1.size; have := hg1; omega
          have HFWa := hide hcut.2.1
          clear hcut HSWa HRTa
          have hRl : R < W2.heap.size := World.block_lt_of_cell? _ _ HS1.out.2.1
          have HC : Hid (wc.cell? ⟨R, 0, none⟩ = some (.int .u64 ((Sort.xorNext r).toNat : Int)) ∧ wc.frozen? ⟨R, 0, none⟩ = false) := ⟨by
            rw [HFWa.out.cell hRl (fun h => hne h.symm), HFWa.out.frozen hRl (fun h => hne h.symm), ← HX.out]
            exact HS1.out.2⟩
          go_wp2
          go_roundw
          case rel => exact ⟨t + 1, Sort.xorNext r, Sort.swp dk i pj, by omega, by rw [HT.out.2]; rfl, by rw [size_swp']; exact hdk, HSa.out, HC.out.1, HC.out.2, HO.out⟩
          case measure => have := HT.out.2; simp [intOf] <;> omega
    · have x5 : ¬ (i : Int) ≤ p1 := by have := HI.out; omega
      have x6 : ¬ i ≤ p1 := by have := HI.out; omega
      have HF : Hid (SR w g (Sort.breakPatterns d a b) wr) := ⟨by
        have e : t = 3 := by omega
        rw [← hO, e]
        exact hS⟩
      clear hS hc hf hO hi
      go_wp2
      go_end0
      exact ⟨rfl, HF.out⟩
end Go.Proofs.Ybulkcgfi
