import Derived.Test.YbulkcgfiS6
namespace Go.Proofs.Ybulkcgfi
open Go.RowKit
set_option linter.unusedVariables false
set_option linter.unusedSimpArgs false
set_option maxRecDepth 100000
theorem SR.self {w : World} {g : Nat} {d : Array ID} {wr : World} (h : SR w g d wr) : SR wr g d wr := ⟨Fw.refl _ _, h.row, h.ok, h.fz⟩
theorem SR.trans {w : World} {g : Nat} {d d' : Array ID} {wr w' : World} (h : SR w g d wr) (k : SR wr g d' w') : SR w g d' w' := ⟨h.fw.trans k.fw, k.row, k.ok, k.fz⟩
theorem size_swp' (d : Array ID) (i j : Nat) : (Sort.swp d i j).size = d.size := by simp [Sort.swp]
/-- One round of siftDown. -/
theorem sd_step {hi F root ch : Nat} {lt : ID → ID → Bool} (d : Array ID) (h : 2 * root + 1 < hi) (hch : ch = if (decide (2 * root + 1 + 1 < hi) && lt d[F + (2 * root + 1)]! d[F + (2 * root + 1) + 1]!) = true then 2 * root + 2 else 2 * root + 1) :
    Sort.siftDown lt hi F root d = if lt d[F + root]! d[F + ch]! then Sort.siftDown lt hi F ch (Sort.swp d (F + root) (F + ch)) else d := by
  rw [Sort.siftDown, dif_neg (by omega)]
  by_cases hc : (decide (2 * root + 1 + 1 < hi) && lt d[F + (2 * root + 1)]! d[F + (2 * root + 1) + 1]!) = true
  · rw [if_pos hc] at hch ⊢
    subst hch
    have h2 : 2 * root + 2 < hi := by simp at hc; omega
    cases hl : lt d[F + root]! d[F + (2 * root + 2)]! <;> simp [h2]
  · rw [if_neg hc] at hch ⊢
    subst hch
    cases hl : lt d[F + root]! d[F + (2 * root + 1)]! <;> simp
theorem sd_end' {hi F root : Nat} {lt : ID → ID → Bool} (d : Array ID) (h : hi ≤ 2 * root + 1) : Sort.siftDown lt hi F root d = d := by rw [Sort.siftDown, dif_pos h]
set_option maxHeartbeats 8000000 in
theorem sift_any (g cap lo hi F : Nat) (d : Array ID) (w : World) (h0 : SR w g d w) (hg : g < w.heap.size) (hlo : lo ≤ 1024) (hF : F + hi ≤ d.size) (hn : d.size ≤ 1024) :
    Calls Yba.prog 26 #[.slice (some ⟨g, 0, none⟩) d.size cap, .int .i64 lo, .int .i64 hi, .int .i64 F, .func (.func 8) #[] #[]] w fun e w' => e = .returned (.tuple #[]) ∧ SR w g (Sort.siftDown Sort.ltStr hi F lo d) w' := by
  have H0 := hide h0
  clear h0
  go_enter Yba.func26, Yba.ntmps26
  go_wp2_with fail
  go_loopw [10] (fun rv wr => ∃ (root : Nat) (dk : Array ID), root ≤ 1024 ∧ rv = .int .i64 root ∧ dk.size = d.size ∧ SR w g dk wr ∧ Sort.siftDown Sort.ltStr hi F root dk = Sort.siftDown Sort.ltStr hi F lo d) (fun rv _ => (hi - intOf rv).toNat)
  case atStart => exact ⟨lo, d, hlo, rfl, rfl, H0.out, rfl⟩
  case round =>
    obtain ⟨root, dk, hr, rfl, hdk, hS, hO⟩ := hrel
    have hgr : g < wr.heap.size := by have := hS.fw.size; omega
    obtain ⟨r2, hr2⟩ : ∃ r2, r2 = 2 * root := ⟨_, rfl⟩
    obtain ⟨c, hc⟩ : ∃ c, c = r2 + 1 := ⟨_, rfl⟩
    have m1 : IntKind.i64.wrap (2 * (root : Int)) = r2 := by rw [wrap_in _ (by omega) (by omega)]; omega
    have m2 : IntKind.i64.wrap ((r2 : Int) + 1) = c := by rw [wrap_in _ (by omega) (by omega)]; omega
    have HS := hide (And.intro hS hO)
    have HC := hide (And.intro hr2 hc)
    clear hS hO hr2 hc
    by_cases hlt : c < hi
    · have c1 : ¬ (hi : Int) ≤ c := by omega
      have c2 : ¬ hi ≤ c := by omega
      obtain ⟨c', hc'⟩ : ∃ c', c' = c + 1 := ⟨_, rfl⟩
      have m3 : IntKind.i64.wrap ((c : Int) + 1) = c' := by rw [wrap_in _ (by omega) (by omega)]; omega
      have HC' := hide hc'
      go_upto_region 3 with fail
      go_cut [40] (fun s wc => s = .bool (decide (c' < hi) && Sort.ltStr dk[F + c]! dk[F + c']!) ∧ Below wr.heap.size wr wc)
      case first =>
        by_cases hc2 : c' < hi
        · obtain ⟨p, hp⟩ : ∃ p, p = F + c := ⟨_, rfl⟩
          obtain ⟨q, hq⟩ : ∃ q, q = F + c' := ⟨_, rfl⟩
          have m4 : IntKind.i64.wrap ((F : Int) + (c : Int)) = p := by rw [wrap_in _ (by omega) (by omega)]; omega
          have m5 : IntKind.i64.wrap ((p : Int) + 1) = q := by rw [wrap_in _ (by omega) (by omega)]; omega
          have c3 : (c' : Int) < hi := by omega
          have HP := hide (And.intro hp hq)
          have r1a := HS.out.1.row p (by omega)
          have r0a := HS.out.1.row q (by omega)
          have o1a := HS.out.1.ok p (by omega)
          have o0a := HS.out.1.ok q (by omega)
          obtain ⟨xa, hxa⟩ : ∃ x, x = dk[p]! := ⟨_, rfl⟩
          obtain ⟨ya, hya⟩ : ∃ y, y = dk[q]! := ⟨_, rfl⟩
          rw [← hxa] at r1a o1a
          rw [← hya] at r0a o0a
          have b1a : ((p : Nat) : Int) < d.size := by omega
          have b0a : ((q : Nat) : Int) < d.size := by omega
          have b3a : p < d.size := by omega
          have b2a : q < d.size := by omega
          have s1a : (Yba.prog.info? 26).map (·.size) = some (idc xa).length := by rw [idc_len, o1a]; exact info26
          have s0a : (Yba.prog.info? 26).map (·.size) = some (idc ya).length := by rw [idc_len, o0a]; exact info26
          have HXa := hide (And.intro hxa hya)
          have HRa := hide (And.intro r1a r0a)
          clear hxa hya r1a r0a
          clear hp hq hc'
          go_wp2_with fail
          refine wp_region_held_drew (S := fun w' => w'.rangeAt g (p * 32) (idc xa) ∧ w'.rangeAt g (q * 32) (idc ya)) (by kernel_rfl) (R2 HRa.out.1 HRa.out.2 hgr ((Below.refl _ _).drew)) (fun hHeld => ?_)
          refine wpAnyH_take (i := 0) (v := ?_) rfl (by kernel_rfl) (by kernel_rfl) (by kernel_rfl) (fun _ _ _ h => h) (Or.inl ⟨by rfl, ?hy0⟩) hHeld ?_
          case hy0 => intro w hSw; go_simp; first | done | (with_reducible rfl)
          simp only [Act.put, List.getElem_toArray, List.getElem_cons_zero, List.getElem_cons_succ, List.setIfInBounds_toArray, List.set_cons_zero, List.set_cons_succ]
          refine wpAnyH_take (i := 1) (v := ?_) rfl (by kernel_rfl) (by kernel_rfl) (by kernel_rfl) (fun _ _ _ h => h) (Or.inl ⟨by rfl, ?hy1⟩) hHeld ?_
          case hy1 => intro w hSw; go_simp; first | done | (with_reducible rfl)
          simp only [Act.put, List.getElem_toArray, List.getElem_cons_zero, List.getElem_cons_succ, List.setIfInBounds_toArray, List.set_cons_zero, List.set_cons_succ]
          refine wpAnyH_take (i := 2) (v := ?_) rfl (by kernel_rfl) (by kernel_rfl) (by kernel_rfl) (fun _ _ _ h => h) (Or.inl ⟨by rfl, ?hy2⟩) hHeld ?_
          case hy2 => intro w hSw; go_simp; first | done | (with_reducible rfl)
          simp only [Act.put, List.getElem_toArray, List.getElem_cons_zero, List.getElem_cons_succ, List.setIfInBounds_toArray, List.set_cons_zero, List.set_cons_succ]
          refine wpAnyH_take (i := 3) (v := ?_) rfl (by kernel_rfl) (by kernel_rfl) (by kernel_rfl) (fun _ _ _ h => h) (Or.inl ⟨by rfl, ?hy3⟩) hHeld ?_
          case hy3 => intro w hSw; go_simp; first | done | (with_reducible rfl)
          simp only [Act.put, List.getElem_toArray, List.getElem_cons_zero, List.getElem_cons_succ, List.setIfInBounds_toArray, List.set_cons_zero, List.set_cons_succ]
          refine wpAnyH_take (i := 4) (v := ?_) rfl (by kernel_rfl) (by kernel_rfl) (by kernel_rfl) (fun _ _ _ h => h) (Or.inl ⟨by rfl, ?hy4⟩) hHeld ?_
          case hy4 => intro w hSw; go_simp; first | done | (with_reducible rfl)
          simp only [Act.put, List.getElem_toArray, List.getElem_cons_zero, List.getElem_cons_succ, List.setIfInBounds_toArray, List.set_cons_zero, List.set_cons_succ]
          refine wpAnyH_take (i := 5) (v := ?_) rfl (by kernel_rfl) (by kernel_rfl) (by kernel_rfl) (fun _ _ _ h => h) (Or.inl ⟨by rfl, ?hy5⟩) hHeld ?_
          case hy5 => intro w hSw; go_simp; first | done | (with_reducible rfl)
          simp only [Act.put, List.getElem_toArray, List.getElem_cons_zero, List.getElem_cons_succ, List.setIfInBounds_toArray, List.set_cons_zero, List.set_cons_succ]
          refine wpAnyH_take (i := 6) (v := ?_) rfl (by kernel_rfl) (by kernel_rfl) (by kernel_rfl) (fun _ _ _ h => h) (Or.inl ⟨by rfl, ?hy6⟩) hHeld ?_
          case hy6 => intro w hSw; go_simp; first | done | (with_reducible rfl)
          simp only [Act.put, List.getElem_toArray, List.getElem_cons_zero, List.getElem_cons_succ, List.setIfInBounds_toArray, List.set_cons_zero, List.set_cons_succ]
          refine wpAnyH_take (i := 7) (v := ?_) rfl (by kernel_rfl) (by kernel_rfl) (by kernel_rfl) (fun _ _ _ h => h) (Or.inl ⟨by rfl, ?hy7⟩) hHeld ?_
          case hy7 => intro w hSw; go_simp; first | done | (with_reducible rfl)
          simp only [Act.put, List.getElem_toArray, List.getElem_cons_zero, List.getElem_cons_succ, List.setIfInBounds_toArray, List.set_cons_zero, List.set_cons_succ]
          refine wpAnyH_take (i := 8) (v := ?_) rfl (by kernel_rfl) (by kernel_rfl) (by kernel_rfl) (fun _ _ _ h => h) (Or.inl ⟨by rfl, ?hy8⟩) hHeld ?_
          case hy8 => intro w hSw; go_simp; first | done | (with_reducible rfl)
          simp only [Act.put, List.getElem_toArray, List.getElem_cons_zero, List.getElem_cons_succ, List.setIfInBounds_toArray, List.set_cons_zero, List.set_cons_succ]
          refine wpAnyH_take (i := 9) (v := ?_) rfl (by kernel_rfl) (by kernel_rfl) (by kernel_rfl) (fun _ _ _ h => h) (Or.inl ⟨by rfl, ?hy9⟩) hHeld ?_
          case hy9 => intro w hSw; go_simp; first | done | (with_reducible rfl)
          simp only [Act.put, List.getElem_toArray, List.getElem_cons_zero, List.getElem_cons_succ, List.setIfInBounds_toArray, List.set_cons_zero, List.set_cons_succ]
          refine wpAnyH_take (i := 10) (v := ?_) rfl (by kernel_rfl) (by kernel_rfl) (by kernel_rfl) (fun _ _ _ h => h) (Or.inl ⟨by rfl, ?hy10⟩) hHeld ?_
          case hy10 => intro w hSw; go_simp; first | done | (with_reducible rfl)
          simp only [Act.put, List.getElem_toArray, List.getElem_cons_zero, List.getElem_cons_succ, List.setIfInBounds_toArray, List.set_cons_zero, List.set_cons_succ]
          refine wpAnyH_take (i := 11) (v := _) rfl (by kernel_rfl) (by kernel_rfl) (by kernel_rfl) (fun _ _ _ h => h) (yieldsIf_load_mid (by rfl) 26 (.tmp 29) rfl g (p * 32) rfl (idc xa) _ (fun _ h => h.1) Yba.underlying26 rfl s1a) hHeld ?_
          simp only [Act.put, List.getElem_toArray, List.getElem_cons_zero, List.getElem_cons_succ, List.setIfInBounds_toArray, List.set_cons_zero, List.set_cons_succ]
          refine wpAnyH_take (i := 12) (v := ?_) rfl (by kernel_rfl) (by kernel_rfl) (by kernel_rfl) (fun _ _ _ h => h) (Or.inl ⟨by rfl, ?hy12⟩) hHeld ?_
          case hy12 => intro w hSw; go_simp; first | done | (with_reducible rfl)
          simp only [Act.put, List.getElem_toArray, List.getElem_cons_zero, List.getElem_cons_succ, List.setIfInBounds_toArray, List.set_cons_zero, List.set_cons_succ]
          refine wpAnyH_take (i := 13) (v := ?_) rfl (by kernel_rfl) (by kernel_rfl) (by kernel_rfl) (fun _ _ _ h => h) (Or.inl ⟨by rfl, ?hy13⟩) hHeld ?_
          case hy13 => intro w hSw; go_simp; first | done | (with_reducible rfl)
          simp only [Act.put, List.getElem_toArray, List.getElem_cons_zero, List.getElem_cons_succ, List.setIfInBounds_toArray, List.set_cons_zero, List.set_cons_succ]
          refine wpAnyH_take (i := 14) (v := ?_) rfl (by kernel_rfl) (by kernel_rfl) (by kernel_rfl) (fun _ _ _ h => h) (Or.inl ⟨by rfl, ?hy14⟩) hHeld ?_
          case hy14 => intro w hSw; go_simp; first | done | (with_reducible rfl)
          simp only [Act.put, List.getElem_toArray, List.getElem_cons_zero, List.getElem_cons_succ, List.setIfInBounds_toArray, List.set_cons_zero, List.set_cons_succ]
          refine wpAnyH_take (i := 15) (v := ?_) rfl (by kernel_rfl) (by kernel_rfl) (by kernel_rfl) (fun _ _ _ h => h) (Or.inl ⟨by rfl, ?hy15⟩) hHeld ?_
          case hy15 => intro w hSw; go_simp; first | done | (with_reducible rfl)
          simp only [Act.put, List.getElem_toArray, List.getElem_cons_zero, List.getElem_cons_succ, List.setIfInBounds_toArray, List.set_cons_zero, List.set_cons_succ]
          refine wpAnyH_take (i := 16) (v := ?_) rfl (by kernel_rfl) (by kernel_rfl) (by kernel_rfl) (fun _ _ _ h => h) (Or.inl ⟨by rfl, ?hy16⟩) hHeld ?_
          case hy16 => intro w hSw; go_simp; first | done | (with_reducible rfl)
          simp only [Act.put, List.getElem_toArray, List.getElem_cons_zero, List.getElem_cons_succ, List.setIfInBounds_toArray, List.set_cons_zero, List.set_cons_succ]
          refine wpAnyH_take (i := 17) (v := ?_) rfl (by kernel_rfl) (by kernel_rfl) (by kernel_rfl) (fun _ _ _ h => h) (Or.inl ⟨by rfl, ?hy17⟩) hHeld ?_
          case hy17 => intro w hSw; go_simp; first | done | (with_reducible rfl)
          simp only [Act.put, List.getElem_toArray, List.getElem_cons_zero, List.getElem_cons_succ, List.setIfInBounds_toArray, List.set_cons_zero, List.set_cons_succ]
          refine wpAnyH_take (i := 18) (v := _) rfl (by kernel_rfl) (by kernel_rfl) (by kernel_rfl) (fun _ _ _ h => h) (yieldsIf_load_mid (by rfl) 26 (.tmp 36) rfl g (q * 32) rfl (idc ya) _ (fun _ h => h.2) Yba.underlying26 rfl s0a) hHeld ?_
          simp only [Act.put, List.getElem_toArray, List.getElem_cons_zero, List.getElem_cons_succ, List.setIfInBounds_toArray, List.set_cons_zero, List.set_cons_succ]
          refine wpAnyH_ready (rs := [19]) (by kernel_rfl) (by simp) ?_
          refine AllReadyH.cons rfl (fun K hK => ?_) AllReadyH.nil
          rw [if_pos (by rfl)]
          go_simp
          refine (order_any xa ya _ o1a o0a).mono ?_
          rintro e w5 ⟨⟨cc, rfl, hcc⟩, hw5⟩; have HB5 := hide (un_drew hw5); have HC5 := hide hcc; clear hw5 hcc
          clear hHeld
          refine hK.out _ _ (R2 HRa.out.1 HRa.out.2 hgr HB5.out) (fun hHeld => ?_)
          clear hK K
          refine wpAnyH_take (i := 20) (v := ?_) rfl (by kernel_rfl) (by kernel_rfl) (by kernel_rfl) (fun _ _ _ h => h) (Or.inl ⟨by rfl, ?hy20⟩) hHeld ?_
          case hy20 => intro w hSw; go_simp; first | done | (with_reducible rfl)
          simp only [Act.put, List.getElem_toArray, List.getElem_cons_zero, List.getElem_cons_succ, List.setIfInBounds_toArray, List.set_cons_zero, List.set_cons_succ]
          refine wpAnyH_take (i := 21) (v := ?_) rfl (by kernel_rfl) (by kernel_rfl) (by kernel_rfl) (fun _ _ _ h => h) (Or.inl ⟨by rfl, ?hy21⟩) hHeld ?_
          case hy21 => intro w hSw; go_simp; first | done | (with_reducible rfl)
          simp only [Act.put, List.getElem_toArray, List.getElem_cons_zero, List.getElem_cons_succ, List.setIfInBounds_toArray, List.set_cons_zero, List.set_cons_succ]
          refine wpAnyH_done (by kernel_rfl) ?_ _
          go_wp2
          go_meet
          have HL : Sort.ltStr xa ya = decide (cc < 0) := (decide_eq_decide.2 HC5.out).symm
          exact ⟨by rw [← HP.out.1, ← HP.out.2, ← HXa.out.1, ← HXa.out.2, HL, decide_eq_true hc2, Bool.true_and], HB5.out⟩
        · have c3 : ¬ (c' : Int) < hi := by omega
          have c4 : decide (c' < hi) = false := by simp; omega
          clear hc'
          go_wp2_with fail
          go_quiet (fail)
          go_wp2
          go_meet
          exact ⟨by rw [c4, Bool.false_and], bdrewN⟩
      case rest =>
        obtain ⟨hs, hbc⟩ := hcut
        subst hs
        have HSa := hide (HS.out.1.below hgr hbc)
        have hga : g < wc.heap.size := by have := hbc.size; have := hgr; omega
        clear hbc
        obtain ⟨bq, hbq⟩ : ∃ bq, bq = (decide (c' < hi) && Sort.ltStr dk[F + c]! dk[F + c']!) := ⟨_, rfl⟩
        rw [← hbq]
        obtain ⟨ch, hch⟩ : ∃ ch : Nat, ch = if bq = true then c' else c := ⟨_, rfl⟩
        have hch2 : ch < hi := by
          rw [hch]; split
          · next h => rw [hbq] at h; simp at h; omega
          · omega
        have hch1 : root < ch := by
          have := HC.out
          rw [hch]; split <;> omega
        have HST := hide (sd_step (hi := hi) (F := F) (root := root) (ch := ch) (lt := Sort.ltStr) dk (by have := HC.out; omega) (by
          have e1 : c = 2 * root + 1 := by have := HC.out; omega
          have e2 : c' = 2 * root + 2 := by have := HC.out; omega
          rw [hch, hbq, e1, e2]
          rfl))
        have HCH := hide hch
        clear hbq hch hc'
        obtain ⟨W1, rfl⟩ : ∃ W1, W1 = wc := ⟨_, rfl⟩
        go_upto_if 40 with fail
        go_cut [11] (fun s wc => s = .int .i64 ch ∧ wc = W1)
        case first =>
          cases bq with
          | true =>
            go_wp2
            go_meet
            exact ⟨by rw [HCH.out]; rfl, rfl⟩
          | false =>
            go_wp2
            go_meet
            exact ⟨by rw [HCH.out]; rfl, rfl⟩
        case rest =>
          obtain ⟨hs, hw⟩ := hcut
          subst hs
          subst hw
          obtain ⟨p, hp⟩ : ∃ p, p = F + root := ⟨_, rfl⟩
          obtain ⟨q, hq⟩ : ∃ q, q = F + ch := ⟨_, rfl⟩
          have m4 : IntKind.i64.wrap ((F : Int) + (root : Int)) = p := by rw [wrap_in _ (by omega) (by omega)]; omega
          have m5 : IntKind.i64.wrap ((F : Int) + (ch : Int)) = q := by rw [wrap_in _ (by omega) (by omega)]; omega
          rw [← hp, ← hq] at HST
          have hpl : p < d.size := by omega
          have hql : q < d.size := by omega
          clear hp hq
          obtain ⟨W1, rfl⟩ : ∃ W1, W1 = wc := ⟨_, rfl⟩
          have r1b := HSa.out.row p (by omega)
          have r0b := HSa.out.row q (by omega)
          have o1b := HSa.out.ok p (by omega)
          have o0b := HSa.out.ok q (by omega)
          obtain ⟨xb, hxb⟩ : ∃ x, x = dk[p]! := ⟨_, rfl⟩
          obtain ⟨yb, hyb⟩ : ∃ y, y = dk[q]! := ⟨_, rfl⟩
          rw [← hxb] at r1b o1b
          rw [← hyb] at r0b o0b
          have b1b : ((p : Nat) : Int) < d.size := by omega
          have b0b : ((q : Nat) : Int) < d.size := by omega
          have b3b : p < d.size := by omega
          have b2b : q < d.size := by omega
          have s1b : (Yba.prog.info? 26).map (·.size) = some (idc xb).length := by rw [idc_len, o1b]; exact info26
          have s0b : (Yba.prog.info? 26).map (·.size) = some (idc yb).length := by rw [idc_len, o0b]; exact info26
          have HXb := hide (And.intro hxb hyb)
          have HRb := hide (And.intro r1b r0b)
          clear hxb hyb r1b r0b
          go_upto_region 5 with fail
          go_cut [58] (fun s wc => s = .bool (!Sort.ltStr xb yb) ∧ Below W1.heap.size W1 wc)
          case first =>
            go_wp2_with fail
            refine wp_region_held_drew (S := fun w' => w'.rangeAt g (p * 32) (idc xb) ∧ w'.rangeAt g (q * 32) (idc yb)) (by kernel_rfl) (R2 HRb.out.1 HRb.out.2 hga ((Below.refl _ _).drew)) (fun hHeld => ?_)
            refine wpAnyH_take (i := 0) (v := ?_) rfl (by kernel_rfl) (by kernel_rfl) (by kernel_rfl) (fun _ _ _ h => h) (Or.inl ⟨by rfl, ?hy0⟩) hHeld ?_
            case hy0 => intro w hSw; go_simp; first | done | (with_reducible rfl)
            simp only [Act.put, List.getElem_toArray, List.getElem_cons_zero, List.getElem_cons_succ, List.setIfInBounds_toArray, List.set_cons_zero, List.set_cons_succ]
            refine wpAnyH_take (i := 1) (v := ?_) rfl (by kernel_rfl) (by kernel_rfl) (by kernel_rfl) (fun _ _ _ h => h) (Or.inl ⟨by rfl, ?hy1⟩) hHeld ?_
            case hy1 => intro w hSw; go_simp; first | done | (with_reducible rfl)
            simp only [Act.put, List.getElem_toArray, List.getElem_cons_zero, List.getElem_cons_succ, List.setIfInBounds_toArray, List.set_cons_zero, List.set_cons_succ]
            refine wpAnyH_take (i := 2) (v := ?_) rfl (by kernel_rfl) (by kernel_rfl) (by kernel_rfl) (fun _ _ _ h => h) (Or.inl ⟨by rfl, ?hy2⟩) hHeld ?_
            case hy2 => intro w hSw; go_simp; first | done | (with_reducible rfl)
            simp only [Act.put, List.getElem_toArray, List.getElem_cons_zero, List.getElem_cons_succ, List.setIfInBounds_toArray, List.set_cons_zero, List.set_cons_succ]
            refine wpAnyH_take (i := 3) (v := ?_) rfl (by kernel_rfl) (by kernel_rfl) (by kernel_rfl) (fun _ _ _ h => h) (Or.inl ⟨by rfl, ?hy3⟩) hHeld ?_
            case hy3 => intro w hSw; go_simp; first | done | (with_reducible rfl)
            simp only [Act.put, List.getElem_toArray, List.getElem_cons_zero, List.getElem_cons_succ, List.setIfInBounds_toArray, List.set_cons_zero, List.set_cons_succ]
            refine wpAnyH_take (i := 4) (v := ?_) rfl (by kernel_rfl) (by kernel_rfl) (by kernel_rfl) (fun _ _ _ h => h) (Or.inl ⟨by rfl, ?hy4⟩) hHeld ?_
            case hy4 => intro w hSw; go_simp; first | done | (with_reducible rfl)
            simp only [Act.put, List.getElem_toArray, List.getElem_cons_zero, List.getElem_cons_succ, List.setIfInBounds_toArray, List.set_cons_zero, List.set_cons_succ]
            refine wpAnyH_take (i := 5) (v := ?_) rfl (by kernel_rfl) (by kernel_rfl) (by kernel_rfl) (fun _ _ _ h => h) (Or.inl ⟨by rfl, ?hy5⟩) hHeld ?_
            case hy5 => intro w hSw; go_simp; first | done | (with_reducible rfl)
            simp only [Act.put, List.getElem_toArray, List.getElem_cons_zero, List.getElem_cons_succ, List.setIfInBounds_toArray, List.set_cons_zero, List.set_cons_succ]
            refine wpAnyH_take (i := 6) (v := _) rfl (by kernel_rfl) (by kernel_rfl) (by kernel_rfl) (fun _ _ _ h => h) (yieldsIf_load_mid (by rfl) 26 (.tmp 48) rfl g (p * 32) rfl (idc xb) _ (fun _ h => h.1) Yba.underlying26 rfl s1b) hHeld ?_
            simp only [Act.put, List.getElem_toArray, List.getElem_cons_zero, List.getElem_cons_succ, List.setIfInBounds_toArray, List.set_cons_zero, List.set_cons_succ]
            refine wpAnyH_take (i := 7) (v := ?_) rfl (by kernel_rfl) (by kernel_rfl) (by kernel_rfl) (fun _ _ _ h => h) (Or.inl ⟨by rfl, ?hy7⟩) hHeld ?_
            case hy7 => intro w hSw; go_simp; first | done | (with_reducible rfl)
            simp only [Act.put, List.getElem_toArray, List.getElem_cons_zero, List.getElem_cons_succ, List.setIfInBounds_toArray, List.set_cons_zero, List.set_cons_succ]
            refine wpAnyH_take (i := 8) (v := ?_) rfl (by kernel_rfl) (by kernel_rfl) (by kernel_rfl) (fun _ _ _ h => h) (Or.inl ⟨by rfl, ?hy8⟩) hHeld ?_
            case hy8 => intro w hSw; go_simp; first | done | (with_reducible rfl)
            simp only [Act.put, List.getElem_toArray, List.getElem_cons_zero, List.getElem_cons_succ, List.setIfInBounds_toArray, List.set_cons_zero, List.set_cons_succ]
            refine wpAnyH_take (i := 9) (v := ?_) rfl (by kernel_rfl) (by kernel_rfl) (by kernel_rfl) (fun _ _ _ h => h) (Or.inl ⟨by rfl, ?hy9⟩) hHeld ?_
            case hy9 => intro w hSw; go_simp; first | done | (with_reducible rfl)
            simp only [Act.put, List.getElem_toArray, List.getElem_cons_zero, List.getElem_cons_succ, List.setIfInBounds_toArray, List.set_cons_zero, List.set_cons_succ]
            refine wpAnyH_take (i := 10) (v := ?_) rfl (by kernel_rfl) (by kernel_rfl) (by kernel_rfl) (fun _ _ _ h => h) (Or.inl ⟨by rfl, ?hy10⟩) hHeld ?_
            case hy10 => intro w hSw; go_simp; first | done | (with_reducible rfl)
            simp only [Act.put, List.getElem_toArray, List.getElem_cons_zero, List.getElem_cons_succ, List.setIfInBounds_toArray, List.set_cons_zero, List.set_cons_succ]
            refine wpAnyH_take (i := 11) (v := ?_) rfl (by kernel_rfl) (by kernel_rfl) (by kernel_rfl) (fun _ _ _ h => h) (Or.inl ⟨by rfl, ?hy11⟩) hHeld ?_
            case hy11 => intro w hSw; go_simp; first | done | (with_reducible rfl)
            simp only [Act.put, List.getElem_toArray, List.getElem_cons_zero, List.getElem_cons_succ, List.setIfInBounds_toArray, List.set_cons_zero, List.set_cons_succ]
            refine wpAnyH_take (i := 12) (v := _) rfl (by kernel_rfl) (by kernel_rfl) (by kernel_rfl) (fun _ _ _ h => h) (yieldsIf_load_mid (by rfl) 26 (.tmp 54) rfl g (q * 32) rfl (idc yb) _ (fun _ h => h.2) Yba.underlying26 rfl s0b) hHeld ?_
            simp only [Act.put, List.getElem_toArray, List.getElem_cons_zero, List.getElem_cons_succ, List.setIfInBounds_toArray, List.set_cons_zero, List.set_cons_succ]
            refine wpAnyH_ready (rs := [13]) (by kernel_rfl) (by simp) ?_
            refine AllReadyH.cons rfl (fun K hK => ?_) AllReadyH.nil
            rw [if_pos (by rfl)]
            go_simp
            refine (order_any xb yb _ o1b o0b).mono ?_
            rintro e w5 ⟨⟨cc, rfl, hcc⟩, hw5⟩; have HB5 := hide (un_drew hw5); have HC5 := hide hcc; clear hw5 hcc
            clear hHeld
            refine hK.out _ _ (R2 HRb.out.1 HRb.out.2 hga HB5.out) (fun hHeld => ?_)
            clear hK K
            refine wpAnyH_take (i := 14) (v := ?_) rfl (by kernel_rfl) (by kernel_rfl) (by kernel_rfl) (fun _ _ _ h => h) (Or.inl ⟨by rfl, ?hy14⟩) hHeld ?_
            case hy14 => intro w hSw; go_simp; first | done | (with_reducible rfl)
            simp only [Act.put, List.getElem_toArray, List.getElem_cons_zero, List.getElem_cons_succ, List.setIfInBounds_toArray, List.set_cons_zero, List.set_cons_succ]
            refine wpAnyH_take (i := 15) (v := ?_) rfl (by kernel_rfl) (by kernel_rfl) (by kernel_rfl) (fun _ _ _ h => h) (Or.inl ⟨by rfl, ?hy15⟩) hHeld ?_
            case hy15 => intro w hSw; go_simp; first | done | (with_reducible rfl)
            simp only [Act.put, List.getElem_toArray, List.getElem_cons_zero, List.getElem_cons_succ, List.setIfInBounds_toArray, List.set_cons_zero, List.set_cons_succ]
            refine wpAnyH_done (by kernel_rfl) ?_ _
            go_wp2
            go_meet
            have HL : Sort.ltStr xb yb = decide (cc < 0) := (decide_eq_decide.2 HC5.out).symm
            exact ⟨by first | (rw [HL]; done) | (simp [HL]; done), HB5.out⟩
          case rest =>
            obtain ⟨hs, hbc⟩ := hcut
            subst hs
            have HSb := hide (HSa.out.below hga hbc)
            have hgb : g < wc.heap.size := by have := hbc.size; have := hga; omega
            clear hbc
            clear HRb
            generalize hbb : Sort.ltStr xb yb = bb
            have HBB := hide hbb
            clear hbb
            cases bb with
            | true =>
              have HO2 : Hid (Sort.siftDown Sort.ltStr hi F ch (Sort.swp dk p q) = Sort.siftDown Sort.ltStr hi F lo d) := ⟨by
                have h := HST.out
                rw [← HXb.out.1, ← HXb.out.2, HBB.out, HS.out.2] at h
                exact h.symm⟩
              obtain ⟨W2, rfl⟩ : ∃ W2, W2 = wc := ⟨_, rfl⟩
              have hSdc := HSb.out.below hgb ((Below.refl _ _).drew)
              have HSWc := hSdc.swap (i := p) (j := q) (by omega) (by omega)
              have r1c := hSdc.row q (by omega)
              have r0c := hSdc.row p (by omega)
              have o1c := hSdc.ok q (by omega)
              have o0c := hSdc.ok p (by omega)
              have t0c := hSdc.there (x := p) (by omega)
              have t1c := (hSdc.store (i := p) (by omega) dk[q]! o1c).there (x := q) (by rw [Array.size_setIfInBounds]; omega)
              obtain ⟨xc, hxc⟩ : ∃ x, x = dk[q]! := ⟨_, rfl⟩
              obtain ⟨yc, hyc⟩ : ∃ y, y = dk[p]! := ⟨_, rfl⟩
              rw [← hxc] at r1c o1c t1c
              rw [← hyc] at r0c o0c
              rw [← hxc, ← hyc] at HSWc
              have HSWc := hide HSWc
              have b1c : ((q : Nat) : Int) < d.size := by omega
              have b0c : ((p : Nat) : Int) < d.size := by omega
              have b3c : q < d.size := by omega
              have b2c : p < d.size := by omega
              have s1c : (Yba.prog.info? 26).map (·.size) = some (idc xc).length := by rw [idc_len, o1c]; exact info26
              have s0c : (Yba.prog.info? 26).map (·.size) = some (idc yc).length := by rw [idc_len, o0c]; exact info26
              have l1c : (idc xc).length = 32 := by rw [idc_len, o1c]
              have l0c : (idc yc).length = 32 := by rw [idc_len, o0c]
              have HRTc := hide (And.intro r1c (And.intro r0c (And.intro t0c t1c)))
              clear hxc hyc r1c r0c t0c t1c hSdc
              go_upto_region 6 with fail
              go_cut [] (fun wc => SR w g (Sort.swp dk p q) wc ∧ W2.heap.size ≤ wc.heap.size)
              case first =>
                go_wp2_with fail
                refine wp_region_any (by kernel_rfl) ?_
                change wpAny _ _ _ _ _ _ _ (World.drew _)
                refine wpAny_take (i := 0) (v := ?v0) rfl (by kernel_rfl) (by kernel_rfl) (by kernel_rfl) (fun _ _ _ h => h) (Or.inl ⟨by rfl, ?hy0⟩) ?_
                case hy0 => intro w; go_simp; first | done | (with_reducible rfl)
                simp only [Act.put, List.getElem_toArray, List.getElem_cons_zero, List.getElem_cons_succ, List.setIfInBounds_toArray, List.set_cons_zero, List.set_cons_succ]
                refine wpAny_take (i := 1) (v := ?v1) rfl (by kernel_rfl) (by kernel_rfl) (by kernel_rfl) (fun _ _ _ h => h) (Or.inl ⟨by rfl, ?hy1⟩) ?_
                case hy1 => intro w; go_simp; first | done | (with_reducible rfl)
                simp only [Act.put, List.getElem_toArray, List.getElem_cons_zero, List.getElem_cons_succ, List.setIfInBounds_toArray, List.set_cons_zero, List.set_cons_succ]
                refine wpAny_take (i := 2) (v := ?v2) rfl (by kernel_rfl) (by kernel_rfl) (by kernel_rfl) (fun _ _ _ h => h) (Or.inl ⟨by rfl, ?hy2⟩) ?_
                case hy2 => intro w; go_simp; first | done | (with_reducible rfl)
                simp only [Act.put, List.getElem_toArray, List.getElem_cons_zero, List.getElem_cons_succ, List.setIfInBounds_toArray, List.set_cons_zero, List.set_cons_succ]
                refine wpAny_take (i := 3) (v := ?v3) rfl (by kernel_rfl) (by kernel_rfl) (by kernel_rfl) (fun _ _ _ h => h) (Or.inl ⟨by rfl, ?hy3⟩) ?_
                case hy3 => intro w; go_simp; first | done | (with_reducible rfl)
                simp only [Act.put, List.getElem_toArray, List.getElem_cons_zero, List.getElem_cons_succ, List.setIfInBounds_toArray, List.set_cons_zero, List.set_cons_succ]
                refine wpAny_take (i := 4) (v := ?v4) rfl (by kernel_rfl) (by kernel_rfl) (by kernel_rfl) (fun _ _ _ h => h) (Or.inl ⟨by rfl, ?hy4⟩) ?_
                case hy4 => intro w; go_simp; first | done | (with_reducible rfl)
                simp only [Act.put, List.getElem_toArray, List.getElem_cons_zero, List.getElem_cons_succ, List.setIfInBounds_toArray, List.set_cons_zero, List.set_cons_succ]
                refine wpAny_take (i := 5) (v := ?v5) rfl (by kernel_rfl) (by kernel_rfl) (by kernel_rfl) (fun _ _ _ h => h) (Or.inl ⟨by rfl, ?hy5⟩) ?_
                case hy5 => intro w; go_simp; first | done | (with_reducible rfl)
                simp only [Act.put, List.getElem_toArray, List.getElem_cons_zero, List.getElem_cons_succ, List.setIfInBounds_toArray, List.set_cons_zero, List.set_cons_succ]
                refine wpAny_take (i := 6) (v := ?v6) rfl (by kernel_rfl) (by kernel_rfl) (by kernel_rfl) (fun _ _ _ h => h) (Or.inl ⟨by rfl, ?hy6⟩) ?_
                case hy6 => intro w; go_simp; first | done | (with_reducible rfl)
                simp only [Act.put, List.getElem_toArray, List.getElem_cons_zero, List.getElem_cons_succ, List.setIfInBounds_toArray, List.set_cons_zero, List.set_cons_succ]
                refine wpAny_take (i := 7) (v := ?v7) rfl (by kernel_rfl) (by kernel_rfl) (by kernel_rfl) (fun _ _ _ h => h) (Or.inl ⟨by rfl, ?hy7⟩) ?_
                case hy7 => intro w; go_simp; first | done | (with_reducible rfl)
                simp only [Act.put, List.getElem_toArray, List.getElem_cons_zero, List.getElem_cons_succ, List.setIfInBounds_toArray, List.set_cons_zero, List.set_cons_succ]
                refine wpAny_take (i := 8) (v := ?v8) rfl (by kernel_rfl) (by kernel_rfl) (by kernel_rfl) (fun _ _ _ h => h) (Or.inl ⟨by rfl, ?hy8⟩) ?_
                case hy8 => intro w; go_simp; first | done | (with_reducible rfl)
                simp only [Act.put, List.getElem_toArray, List.getElem_cons_zero, List.getElem_cons_succ, List.setIfInBounds_toArray, List.set_cons_zero, List.set_cons_succ]
                refine wpAny_take (i := 9) (v := ?v9) rfl (by kernel_rfl) (by kernel_rfl) (by kernel_rfl) (fun _ _ _ h => h) (Or.inl ⟨by rfl, ?hy9⟩) ?_
                case hy9 => intro w; go_simp; first | done | (with_reducible rfl)
                simp only [Act.put, List.getElem_toArray, List.getElem_cons_zero, List.getElem_cons_succ, List.setIfInBounds_toArray, List.set_cons_zero, List.set_cons_succ]
                refine wpAny_take (i := 10) (v := ?v10) rfl (by kernel_rfl) (by kernel_rfl) (by kernel_rfl) (fun _ _ _ h => h) (Or.inl ⟨by rfl, ?hy10⟩) ?_
                case hy10 => intro w; go_simp; first | done | (with_reducible rfl)
                simp only [Act.put, List.getElem_toArray, List.getElem_cons_zero, List.getElem_cons_succ, List.setIfInBounds_toArray, List.set_cons_zero, List.set_cons_succ]
                refine wpAny_take (i := 11) (v := ?v11) rfl (by kernel_rfl) (by kernel_rfl) (by kernel_rfl) (fun _ _ _ h => h) (Or.inl ⟨by rfl, ?hy11⟩) ?_
                case hy11 => intro w; go_simp; first | done | (with_reducible rfl)
                simp only [Act.put, List.getElem_toArray, List.getElem_cons_zero, List.getElem_cons_succ, List.setIfInBounds_toArray, List.set_cons_zero, List.set_cons_succ]
                refine wpAny_take (i := 12) (v := ?v12) rfl (by kernel_rfl) (by kernel_rfl) (by kernel_rfl) (fun _ _ _ h => h) (Or.inl ⟨by rfl, ?hy12⟩) ?_
                case hy12 => intro w; go_simp; first | done | (with_reducible rfl)
                simp only [Act.put, List.getElem_toArray, List.getElem_cons_zero, List.getElem_cons_succ, List.setIfInBounds_toArray, List.set_cons_zero, List.set_cons_succ]
                refine wpAny_take (i := 14) (v := ?v14) rfl (by kernel_rfl) (by kernel_rfl) (by kernel_rfl) (fun _ _ _ h => h) (Or.inl ⟨by rfl, ?hy14⟩) ?_
                case hy14 => intro w; go_simp; first | done | (with_reducible rfl)
                simp only [Act.put, List.getElem_toArray, List.getElem_cons_zero, List.getElem_cons_succ, List.setIfInBounds_toArray, List.set_cons_zero, List.set_cons_succ]
                refine wpAny_take (i := 15) (v := ?v15) rfl (by kernel_rfl) (by kernel_rfl) (by kernel_rfl) (fun _ _ _ h => h) (Or.inl ⟨by rfl, ?hy15⟩) ?_
                case hy15 => intro w; go_simp; first | done | (with_reducible rfl)
                simp only [Act.put, List.getElem_toArray, List.getElem_cons_zero, List.getElem_cons_succ, List.setIfInBounds_toArray, List.set_cons_zero, List.set_cons_succ]
                refine wpAny_take (i := 16) (v := ?v16) rfl (by kernel_rfl) (by kernel_rfl) (by kernel_rfl) (fun _ _ _ h => h) (Or.inl ⟨by rfl, ?hy16⟩) ?_
                case hy16 => intro w; go_simp; first | done | (with_reducible rfl)
                simp only [Act.put, List.getElem_toArray, List.getElem_cons_zero, List.getElem_cons_succ, List.setIfInBounds_toArray, List.set_cons_zero, List.set_cons_succ]
                refine wpAny_take (i := 17) (v := ?v17) rfl (by kernel_rfl) (by kernel_rfl) (by kernel_rfl) (fun _ _ _ h => h) (Or.inl ⟨by rfl, ?hy17⟩) ?_
                case hy17 => intro w; go_simp; first | done | (with_reducible rfl)
                simp only [Act.put, List.getElem_toArray, List.getElem_cons_zero, List.getElem_cons_succ, List.setIfInBounds_toArray, List.set_cons_zero, List.set_cons_succ]
                refine wpAny_take (i := 18) (v := ?v18) rfl (by kernel_rfl) (by kernel_rfl) (by kernel_rfl) (fun _ _ _ h => h) (Or.inl ⟨by rfl, ?hy18⟩) ?_
                case hy18 => intro w; go_simp; first | done | (with_reducible rfl)
                simp only [Act.put, List.getElem_toArray, List.getElem_cons_zero, List.getElem_cons_succ, List.setIfInBounds_toArray, List.set_cons_zero, List.set_cons_succ]
                refine wpAny_ready (rs := [13, 19]) (by kernel_rfl) (by simp) ?_
                refine AllReady.cons rfl (fun K hK => ?_) (AllReady.cons rfl (fun K hK => ?_) AllReady.nil)
                · rw [if_pos (by rfl)]
                  refine wp_load_mid 26 (.tmp 71) rfl g (q * 32) rfl (idc xc) _ (HRTc.out.1) Yba.underlying26 rfl s1c ?_
                  refine hK _ _ ?_
                  clear hK K
                  simp only [Act.put, List.getElem_toArray, List.getElem_cons_zero, List.getElem_cons_succ, List.setIfInBounds_toArray, List.set_cons_zero, List.set_cons_succ]
                  refine wpAny_ready (rs := [19]) (by kernel_rfl) (by simp) ?_
                  refine AllReady.cons rfl (fun K hK => ?_) AllReady.nil
                  rw [if_pos (by rfl)]
                  refine wp_load_mid 26 (.tmp 77) rfl g (p * 32) rfl (idc yc) _ (HRTc.out.2.1) Yba.underlying26 rfl s0c ?_
                  refine hK _ _ ?_
                  clear hK K
                  simp only [Act.put, List.getElem_toArray, List.getElem_cons_zero, List.getElem_cons_succ, List.setIfInBounds_toArray, List.set_cons_zero, List.set_cons_succ]
                  refine wpAny_take (i := 20) (v := ?v20) rfl (by kernel_rfl) (by kernel_rfl) (by kernel_rfl) (fun _ _ _ h => h) (Or.inl ⟨by rfl, ?hy20⟩) ?_
                  case hy20 => intro w; go_simp; first | done | (with_reducible rfl)
                  simp only [Act.put, List.getElem_toArray, List.getElem_cons_zero, List.getElem_cons_succ, List.setIfInBounds_toArray, List.set_cons_zero, List.set_cons_succ]
                  refine wpAny_ready (rs := [21]) (by kernel_rfl) (by simp) ?_
                  refine AllReady.cons rfl (fun K hK => ?_) AllReady.nil
                  rw [if_pos (by rfl)]
                  refine wp_store_mid 26 (.tmp 79) (.tmp 72) rfl g (p * 32) (idc xc).toArray rfl rfl (by rw [List.size_toArray, l1c]; exact HRTc.out.2.2.1) (by rw [List.size_toArray]; exact s1c) (by simpa using idc_one xc) ?_
                  refine hK _ _ ?_
                  clear hK K
                  simp only [Act.put, List.getElem_toArray, List.getElem_cons_zero, List.getElem_cons_succ, List.setIfInBounds_toArray, List.set_cons_zero, List.set_cons_succ]
                  refine wpAny_take (i := 22) (v := ?v22) rfl (by kernel_rfl) (by kernel_rfl) (by kernel_rfl) (fun _ _ _ h => h) (Or.inl ⟨by rfl, ?hy22⟩) ?_
                  case hy22 => intro w; go_simp; first | done | (with_reducible rfl)
                  simp only [Act.put, List.getElem_toArray, List.getElem_cons_zero, List.getElem_cons_succ, List.setIfInBounds_toArray, List.set_cons_zero, List.set_cons_succ]
                  refine wpAny_ready (rs := [23]) (by kernel_rfl) (by simp) ?_
                  refine AllReady.cons rfl (fun K hK => ?_) AllReady.nil
                  rw [if_pos (by rfl)]
                  refine wp_store_mid 26 (.tmp 80) (.tmp 78) rfl g (q * 32) (idc yc).toArray rfl rfl (by rw [List.size_toArray, l0c]; exact HRTc.out.2.2.2) (by rw [List.size_toArray]; exact s0c) (by simpa using idc_one yc) ?_
                  refine hK _ _ ?_
                  clear hK K
                  simp only [Act.put, List.getElem_toArray, List.getElem_cons_zero, List.getElem_cons_succ, List.setIfInBounds_toArray, List.set_cons_zero, List.set_cons_succ]
                  refine wpAny_done (by kernel_rfl) ?_ _
                  go_wp2
                  go_meet
                  exact ⟨HSWc.out, by rw [sc_size, sc_size]; exact Nat.le_refl _⟩
                · rw [if_pos (by rfl)]
                  refine wp_load_mid 26 (.tmp 77) rfl g (p * 32) rfl (idc yc) _ (HRTc.out.2.1) Yba.underlying26 rfl s0c ?_
                  refine hK _ _ ?_
                  clear hK K
                  simp only [Act.put, List.getElem_toArray, List.getElem_cons_zero, List.getElem_cons_succ, List.setIfInBounds_toArray, List.set_cons_zero, List.set_cons_succ]
                  refine wpAny_ready (rs := [13]) (by kernel_rfl) (by simp) ?_
                  refine AllReady.cons rfl (fun K hK => ?_) AllReady.nil
                  rw [if_pos (by rfl)]
                  refine wp_load_mid 26 (.tmp 71) rfl g (q * 32) rfl (idc xc) _ (HRTc.out.1) Yba.underlying26 rfl s1c ?_
                  refine hK _ _ ?_
                  clear hK K
                  simp only [Act.put, List.getElem_toArray, List.getElem_cons_zero, List.getElem_cons_succ, List.setIfInBounds_toArray, List.set_cons_zero, List.set_cons_succ]
                  refine wpAny_take (i := 20) (v := ?v20) rfl (by kernel_rfl) (by kernel_rfl) (by kernel_rfl) (fun _ _ _ h => h) (Or.inl ⟨by rfl, ?hy20⟩) ?_
                  case hy20 => intro w; go_simp; first | done | (with_reducible rfl)
                  simp only [Act.put, List.getElem_toArray, List.getElem_cons_zero, List.getElem_cons_succ, List.setIfInBounds_toArray, List.set_cons_zero, List.set_cons_succ]
                  refine wpAny_ready (rs := [21]) (by kernel_rfl) (by simp) ?_
                  refine AllReady.cons rfl (fun K hK => ?_) AllReady.nil
                  rw [if_pos (by rfl)]
                  refine wp_store_mid 26 (.tmp 79) (.tmp 72) rfl g (p * 32) (idc xc).toArray rfl rfl (by rw [List.size_toArray, l1c]; exact HRTc.out.2.2.1) (by rw [List.size_toArray]; exact s1c) (by simpa using idc_one xc) ?_
                  refine hK _ _ ?_
                  clear hK K
                  simp only [Act.put, List.getElem_toArray, List.getElem_cons_zero, List.getElem_cons_succ, List.setIfInBounds_toArray, List.set_cons_zero, List.set_cons_succ]
                  refine wpAny_take (i := 22) (v := ?v22) rfl (by kernel_rfl) (by kernel_rfl) (by kernel_rfl) (fun _ _ _ h => h) (Or.inl ⟨by rfl, ?hy22⟩) ?_
                  case hy22 => intro w; go_simp; first | done | (with_reducible rfl)
                  simp only [Act.put, List.getElem_toArray, List.getElem_cons_zero, List.getElem_cons_succ, List.setIfInBounds_toArray, List.set_cons_zero, List.set_cons_succ]
                  refine wpAny_ready (rs := [23]) (by kernel_rfl) (by simp) ?_
                  refine AllReady.cons rfl (fun K hK => ?_) AllReady.nil
                  rw [if_pos (by rfl)]
                  refine wp_store_mid 26 (.tmp 80) (.tmp 78) rfl g (q * 32) (idc yc).toArray rfl rfl (by rw [List.size_toArray, l0c]; exact HRTc.out.2.2.2) (by rw [List.size_toArray]; exact s0c) (by simpa using idc_one yc) ?_
                  refine hK _ _ ?_
                  clear hK K
                  simp only [Act.put, List.getElem_toArray, List.getElem_cons_zero, List.getElem_cons_succ, List.setIfInBounds_toArray, List.set_cons_zero, List.set_cons_succ]
                  refine wpAny_done (by kernel_rfl) ?_ _
                  go_wp2
                  go_meet
                  exact ⟨HSWc.out, by rw [sc_size, sc_size]; exact Nat.le_refl _⟩
              case rest =>
                have HSc := hide hcut.1
                have hgc : g < wc.heap.size := by have := hcut.2; have := hgb; omega
                clear hcut HSWc HRTc
                go_wp2
                go_roundw
                case rel => exact ⟨ch, Sort.swp dk p q, by omega, by go_num, by rw [size_swp']; exact hdk, HSc.out, HO2.out⟩
                case measure => simp [intOf]; omega
            | false =>
              have HE : Hid (SR w g (Sort.siftDown Sort.ltStr hi F lo d) wc) := ⟨by
                have h := HST.out
                rw [← HXb.out.1, ← HXb.out.2, HBB.out, HS.out.2] at h
                rw [h]
                exact HSb.out⟩
              go_wp2
              refine bodyPost_ret (results_none rfl _ _ _) rfl ?_
              exact ⟨rfl, HE.out⟩
    · have c1 : (hi : Int) ≤ c := by omega
      have c2 : hi ≤ c := by omega
      have HE : Hid (SR w g (Sort.siftDown Sort.ltStr hi F lo d) wr) := ⟨by
        rw [← HS.out.2, sd_end' _ (by have := HC.out; omega)]
        exact HS.out.1⟩
      go_wp2
      go_end0
      exact ⟨rfl, HE.out⟩
end Go.Proofs.Ybulkcgfi
