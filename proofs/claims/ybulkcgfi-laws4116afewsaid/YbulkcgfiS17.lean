import Derived.Test.YbulkcgfiS9
import Derived.Test.YbulkcgfiE1
import Derived.Test.YbulkcgfiP2
namespace Go.Proofs.Ybulkcgfi
open Go.RowKit
set_option linter.unusedVariables false
set_option linter.unusedSimpArgs false
set_option maxRecDepth 100000
def z32 : List Value := List.replicate 32 (.int .u8 0)
theorem zero26 (w : World) : (zeroValue 26).run Yba.prog w = .ok (.agg z32.toArray) w := by kernel_rfl
theorem zc_all (n : Nat) : ∀ v ∈ (Builtin.zeroCells z32.toArray n).toList, v = .int .u8 0 := fun v hv => by
  simp only [Builtin.zeroCells, Array.toList_map, List.mem_map] at hv
  obtain ⟨i, _, rfl⟩ := hv
  have hs : z32.toArray.size = 32 := by rfl
  have hl : i % z32.toArray.size < z32.toArray.size := Nat.mod_lt _ (by rw [hs]; omega)
  rw [getElem!_pos z32.toArray _ hl, List.getElem_toArray]
  exact List.eq_of_mem_replicate (List.getElem_mem _)
theorem zc_len (n : Nat) : (Builtin.zeroCells z32.toArray n).toList.length = n * 32 := by
  simp [Builtin.zeroCells, z32]
/-- clear(s), s a row of n > 0 IDs. -/
theorem clear_ids (w : World) (ty : TypeId) (b o n c : Nat) (hn : 0 < n) (ht : w.there b o (n * 32)) :
    (Builtin.clear_ #[23] ty #[.slice (some ⟨b, o, none⟩) n c]).run Yba.prog w = .ok (.tuple #[]) (w.setCells b o (Builtin.zeroCells z32.toArray n).toList) := by
  have hst := run_storeCells_cells (P := Yba.prog) b o (Builtin.zeroCells z32.toArray n).toList 0 w (fun j hj => by simpa using (ht j (by rw [zc_len] at hj; exact hj)).1) (fun j hj => by simpa using (ht j (by rw [zc_len] at hj; exact hj)).2) (fun v hv => by rw [zc_all n v hv]; rfl)
  simp only [Nat.add_zero] at hst
  obtain ⟨m, rfl⟩ : ∃ m, n = m + 1 := ⟨n - 1, by omega⟩
  simp [Builtin.clear_, run_underlying Yba.underlying23, Value.cells]
  show ((Sem.run Yba.prog (storeCells ⟨b, o, none⟩ (Builtin.zeroCells z32.toArray (m + 1)).toList) w).andThen _) = _
  rw [hst]
  rfl
/-- The first k IDs stay where the rest is cleared. -/
theorem SR.cleared {w : World} {g : Nat} {d : Array ID} {wr : World} (h : SR w g d wr) {k : Nat} (hk : k ≤ d.size) (vs : List Value) : SR w g (d.extract 0 k) (wr.setCells g (k * 32) vs) := by
  have ho := sc_os g vs (k * 32) wr
  have hsz : (d.extract 0 k).size = k := by simp; omega
  refine ⟨h.fw.trans ⟨ho.1, ho.2.1, ho.2.2, by rw [sc_size]; exact Nat.le_refl _, fun t _ ht => sc_other g _ _ _ t ht⟩, fun x hx j u hu => ?_, fun x hx => ?_, fun j => by rw [World.frozen?_setCells]; exact h.fz j⟩
  · rw [hsz] at hx
    rw [extract_at hx hk] at hu
    have hj : j < 32 := by have := (List.getElem?_eq_some_iff.1 hu).1; rwa [idc_len, h.ok x (by omega)] at this
    rw [World.cell?_setCells_out g _ _ _ _ (fun _ _ => by show x * 32 + j < k * 32 ∨ k * 32 + vs.length ≤ x * 32 + j; omega)]
    exact h.row x (by omega) j u hu
  · rw [hsz] at hx
    rw [extract_at hx hk]
    exact h.ok x (by omega)
theorem SR.there_rest {w : World} {g : Nat} {d : Array ID} {wr : World} (h : SR w g d wr) {k n : Nat} (hk : k + n ≤ d.size) : wr.there g (k * 32) (n * 32) := fun j hj => by
  have hq := h.there (x := k + j / 32) (by omega) (j % 32) (Nat.mod_lt _ (by omega))
  have e : (k + j / 32) * 32 + j % 32 = k * 32 + j := by omega
  rw [e] at hq
  exact hq
theorem ok_of {w : World} {g : Nat} {d : Array ID} {wr : World} (h : SR w g d wr) {x : Nat} (hx : x < d.size) : (Yba.prog.info? 26).map (·.size) = some (idc d[x]!).length := by rw [idc_len, h.ok x hx]; exact info26
set_option maxHeartbeats 16000000 in
theorem compact_any (g : Nat) (d : Array ID) (w : World) (h0 : SR w g d w) (hg : g < w.heap.size) (hn : d.size ≤ 1024) (hs : Sort.SortedIn Sort.ltStr 0 d.size d) :
    Calls Yba.prog 9 #[.slice (some ⟨g, 0, none⟩) d.size d.size] w fun e w' => ∃ r : Array ID, e = .returned (.slice (some ⟨g, 0, none⟩) r.size d.size) ∧ SR w g r w' ∧ CF d r := by
  have H0 := hide h0
  have HSD := hide hs
  clear h0 hs
  by_cases h2 : d.size < 2
  · have z : (d.size : Int) < 2 := by omega
    have HF : Hid (CF d d) := ⟨CF.whole (fun i j hij hj => by omega)⟩
    go_enter Yba.func9, Yba.ntmps9
    go_wp2
    go_ret
    exact ⟨d, rfl, H0.out, HF.out⟩
  · have z : ¬ (d.size : Int) < 2 := by omega
    go_enter Yba.func9, Yba.ntmps9
    go_wp2_with fail
    go_loopw [3] (fun v wr => ∃ k : Nat, v = .int .i64 k ∧ 1 ≤ k ∧ k ≤ d.size ∧ Hid (∀ i j, i < j → j < k → d[i]! < d[j]!) ∧ SR w g d wr) (fun v _ => ((d.size : Int) - intOf v).toNat)
    case atStart => exact ⟨1, rfl, Nat.le_refl _, by omega, ⟨fun i j hij hj => by omega⟩, H0.out⟩
    case round =>
      obtain ⟨k, rfl, hk1, hkn, HA, hS⟩ := hrel
      have hgr : g < wr.heap.size := by have := hS.fw.size; omega
      have HS := hide hS
      clear hS
      obtain ⟨W, rfl⟩ : ∃ W, W = wr := ⟨_, rfl⟩
      by_cases hkl : k < d.size
      · have z1 : (k : Int) < d.size := by omega
        obtain ⟨k', hk'⟩ : ∃ k', k' = k - 1 := ⟨_, rfl⟩
        have z2 : IntKind.i64.wrap ((k : Int) - 1) = k' := by rw [wrap_in _ (by omega) (by omega)]; omega
        have z3 := wrap_in ((k : Int) + 1) (by omega) (by omega)
        have HK := hide hk'
        have hk3 : k' < k := by omega
        clear hk'
        have r1a := HS.out.row k (by omega)
        have r0a := HS.out.row k' (by omega)
        have o1a := HS.out.ok k (by omega)
        have o0a := HS.out.ok k' (by omega)
        obtain ⟨xa, hxa⟩ : ∃ x, x = d[k]! := ⟨_, rfl⟩
        obtain ⟨ya, hya⟩ : ∃ y, y = d[k']! := ⟨_, rfl⟩
        rw [← hxa] at r1a o1a
        rw [← hya] at r0a o0a
        have b1a : ((k : Nat) : Int) < d.size := by omega
        have b0a : ((k' : Nat) : Int) < d.size := by omega
        have b3a : k < d.size := by omega
        have b2a : k' < d.size := by omega
        have s1a : (Yba.prog.info? 26).map (·.size) = some (idc xa).length := by rw [idc_len, o1a]; exact info26
        have s0a : (Yba.prog.info? 26).map (·.size) = some (idc ya).length := by rw [idc_len, o0a]; exact info26
        have HXa := hide (And.intro hxa hya)
        have HRa := hide (And.intro r1a r0a)
        clear hxa hya r1a r0a
        have HQ := hide (eqd26 xa ya o1a o0a)
        go_upto_region 6 with fail
        go_cut [25] (fun s wc => s = .bool (decide (xa = ya)) ∧ Below W.heap.size W wc)
        case first =>
          have hq := HQ.out
          go_wp2_with fail
          refine wp_region_held_drew (S := fun w' => w'.rangeAt g (k * 32) (idc xa) ∧ w'.rangeAt g (k' * 32) (idc ya)) (by kernel_rfl) (R2 HRa.out.1 HRa.out.2 hgr ((Below.refl _ _).drew)) (fun hHeld => ?_)
          refine wpAnyH_take (i := 0) (v := ?_) rfl (by kernel_rfl) (by kernel_rfl) (by kernel_rfl) (fun _ _ _ h => h) (Or.inl ⟨by rfl, ?hy0⟩) hHeld ?_
          case hy0 => intro w hSw; go_simp; first | done | (with_reducible rfl)
          simp only [Act.put, List.getElem_toArray, List.getElem_cons_zero, List.getElem_cons_succ, List.setIfInBounds_toArray, List.set_cons_zero, List.set_cons_succ]
          refine wpAnyH_take (i := 1) (v := ?_) rfl (by kernel_rfl) (by kernel_rfl) (by kernel_rfl) (fun _ _ _ h => h) (Or.inl ⟨by rfl, ?hy1⟩) hHeld ?_
          case hy1 => intro w hSw; go_simp; first | done | (with_reducible rfl)
          simp only [Act.put, List.getElem_toArray, List.getElem_cons_zero, List.getElem_cons_succ, List.setIfInBounds_toArray, List.set_cons_zero, List.set_cons_succ]
          refine wpAnyH_take (i := 2) (v := ?_) rfl (by kernel_rfl) (by kernel_rfl) (by kernel_rfl) (fun _ _ _ h => h) (Or.inl ⟨by rfl, ?hy2⟩) hHeld ?_
          case hy2 => intro w hSw; go_simp; first | done | (with_reducible rfl)
          simp only [Act.put, List.getElem_toArray, List.getElem_cons_zero, List.getElem_cons_succ, List.setIfInBounds_toArray, List.set_cons_zero, List.set_cons_succ]
          refine wpAnyH_take (i := 3) (v := _) rfl (by kernel_rfl) (by kernel_rfl) (by kernel_rfl) (fun _ _ _ h => h) (yieldsIf_load_mid (by rfl) 26 (.tmp 18) rfl g (k * 32) rfl (idc xa) _ (fun _ h => h.1) Yba.underlying26 rfl s1a) hHeld ?_
          simp only [Act.put, List.getElem_toArray, List.getElem_cons_zero, List.getElem_cons_succ, List.setIfInBounds_toArray, List.set_cons_zero, List.set_cons_succ]
          refine wpAnyH_take (i := 4) (v := ?_) rfl (by kernel_rfl) (by kernel_rfl) (by kernel_rfl) (fun _ _ _ h => h) (Or.inl ⟨by rfl, ?hy4⟩) hHeld ?_
          case hy4 => intro w hSw; go_simp; first | done | (with_reducible rfl)
          simp only [Act.put, List.getElem_toArray, List.getElem_cons_zero, List.getElem_cons_succ, List.setIfInBounds_toArray, List.set_cons_zero, List.set_cons_succ]
          refine wpAnyH_take (i := 5) (v := ?_) rfl (by kernel_rfl) (by kernel_rfl) (by kernel_rfl) (fun _ _ _ h => h) (Or.inl ⟨by rfl, ?hy5⟩) hHeld ?_
          case hy5 => intro w hSw; go_simp; first | done | (with_reducible rfl)
          simp only [Act.put, List.getElem_toArray, List.getElem_cons_zero, List.getElem_cons_succ, List.setIfInBounds_toArray, List.set_cons_zero, List.set_cons_succ]
          refine wpAnyH_take (i := 6) (v := ?_) rfl (by kernel_rfl) (by kernel_rfl) (by kernel_rfl) (fun _ _ _ h => h) (Or.inl ⟨by rfl, ?hy6⟩) hHeld ?_
          case hy6 => intro w hSw; go_simp; first | done | (with_reducible rfl)
          simp only [Act.put, List.getElem_toArray, List.getElem_cons_zero, List.getElem_cons_succ, List.setIfInBounds_toArray, List.set_cons_zero, List.set_cons_succ]
          refine wpAnyH_take (i := 7) (v := ?_) rfl (by kernel_rfl) (by kernel_rfl) (by kernel_rfl) (fun _ _ _ h => h) (Or.inl ⟨by rfl, ?hy7⟩) hHeld ?_
          case hy7 => intro w hSw; go_simp; first | done | (with_reducible rfl)
          simp only [Act.put, List.getElem_toArray, List.getElem_cons_zero, List.getElem_cons_succ, List.setIfInBounds_toArray, List.set_cons_zero, List.set_cons_succ]
          refine wpAnyH_take (i := 8) (v := _) rfl (by kernel_rfl) (by kernel_rfl) (by kernel_rfl) (fun _ _ _ h => h) (yieldsIf_load_mid (by rfl) 26 (.tmp 23) rfl g (k' * 32) rfl (idc ya) _ (fun _ h => h.2) Yba.underlying26 rfl s0a) hHeld ?_
          simp only [Act.put, List.getElem_toArray, List.getElem_cons_zero, List.getElem_cons_succ, List.setIfInBounds_toArray, List.set_cons_zero, List.set_cons_succ]
          refine wpAnyH_take (i := 9) (v := ?_) rfl (by kernel_rfl) (by kernel_rfl) (by kernel_rfl) (fun _ _ _ h => h) (Or.inl ⟨by rfl, ?hy9⟩) hHeld ?_
          case hy9 => intro w hSw; go_simp; first | done | (with_reducible rfl)
          simp only [Act.put, List.getElem_toArray, List.getElem_cons_zero, List.getElem_cons_succ, List.setIfInBounds_toArray, List.set_cons_zero, List.set_cons_succ]
          refine wpAnyH_done (by kernel_rfl) ?_ _
          go_wp2
          go_meet
          exact ⟨by first | rfl | simp, by exact ((Below.refl _ _).drew)⟩
        case rest =>
          obtain ⟨hs, hbc⟩ := hcut
          subst hs
          have HSa := hide (HS.out.below hgr hbc)
          have hga : g < wc.heap.size := by have := hbc.size; have := hgr; omega
          clear hbc
          by_cases hxy : xa = ya
          · obtain ⟨n2, hn2⟩ : ∃ n2, n2 = d.size - k := ⟨_, rfl⟩
            have z4 : (d.size : Int) - (k : Int) = n2 := by omega
            rw [decide_eq_true hxy]
            have HCI : Hid (CI d d k (k + 1)) := ⟨CI.start hk1 hkl HA.out (by rw [← HK.out, ← HXa.out.1, ← HXa.out.2]; exact hxy)⟩
            go_upto_region 8 with fail
            rw [← hn2]
            have HN2 := hide hn2
            have hn3 : k + n2 = d.size := by omega
            clear hn2 z4 hxy HQ
            go_wp2_with fail
            go_loopw [3, 5] (fun v3 v5 wr => ∃ (m k2 : Nat) (cur : Array ID), v3 = .int .i64 m ∧ v5 = .int .i64 k2 ∧ 1 ≤ k2 ∧ k2 ≤ n2 ∧ m < k + k2 ∧ Hid (CI d cur m (k + k2)) ∧ cur.size = d.size ∧ SR w g cur wr) (fun _ v5 _ => ((n2 : Int) - intOf v5).toNat)
            case atStart => exact ⟨k, 1, d, rfl, rfl, Nat.le_refl _, by omega, by omega, HCI, rfl, HSa.out⟩
            case round =>
              obtain ⟨m, k2, cur, rfl, rfl, hk21, hk22, hmk, HCI2, hcs, hS⟩ := hrel
              have hgq : g < wr.heap.size := by have := hS.fw.size; omega
              have HSq := hide hS
              clear hS
              obtain ⟨W2, rfl⟩ : ∃ W, W = wr := ⟨_, rfl⟩
              by_cases hk2n : k2 < n2
              · have y1 : (k2 : Int) < n2 := by omega
                obtain ⟨k3, hk3'⟩ : ∃ k3, k3 = k2 - 1 := ⟨_, rfl⟩
                have y2 : IntKind.i64.wrap ((k2 : Int) - 1) = k3 := by rw [wrap_in _ (by omega) (by omega)]; omega
                have y3 := wrap_in ((k2 : Int) + 1) (by omega) (by omega)
                have y4 : (k3 : Int) < n2 := by omega
                have y5 : k3 < n2 := by omega
                have y6 := wrap_in ((m : Int) + 1) (by omega) (by omega)
                obtain ⟨p, hp⟩ : ∃ p, p = k + k2 := ⟨_, rfl⟩
                obtain ⟨p', hp'⟩ : ∃ p', p' = k + k3 := ⟨_, rfl⟩
                have e1 : p * 32 = k * 32 + k2 * 32 := by omega
                have e2 : p' * 32 = k * 32 + k3 * 32 := by omega
                have q1 : cur[p]! = d[p]! := HCI2.out.same p (by omega) (by omega)
                have q2 : cur[p']! = d[p - 1]! := by rw [HCI2.out.same p' (by omega) (by omega), show p - 1 = p' by omega]
                have HP := hide (And.intro hp (And.intro q1 q2))
                have E1 := hide (And.intro e1 e2)
                have hpl : p < d.size := by omega
                have hpl' : p' < d.size := by omega
                clear hp hp' hk3' q1 q2 e1 e2
                have r1b := HSq.out.row p (by omega)
                have r0b := HSq.out.row p' (by omega)
                have o1b := HSq.out.ok p (by omega)
                have o0b := HSq.out.ok p' (by omega)
                obtain ⟨xb, hxb⟩ : ∃ x, x = cur[p]! := ⟨_, rfl⟩
                obtain ⟨yb, hyb⟩ : ∃ y, y = cur[p']! := ⟨_, rfl⟩
                rw [← hxb] at r1b o1b
                rw [← hyb] at r0b o0b
                have b1b : ((p : Nat) : Int) < d.size := by omega
                have b0b : ((p' : Nat) : Int) < d.size := by omega
                have b3b : p < d.size := by omega
                have b2b : p' < d.size := by omega
                have s1b : (Yba.prog.info? 26).map (·.size) = some (idc xb).length := by rw [idc_len, o1b]; exact info26
                have s0b : (Yba.prog.info? 26).map (·.size) = some (idc yb).length := by rw [idc_len, o0b]; exact info26
                have HXb := hide (And.intro hxb hyb)
                have HRb := hide (And.intro r1b r0b)
                clear hxb hyb r1b r0b
                have HRb2 : Hid (W2.rangeAt g (k * 32 + k2 * 32) (idc xb) ∧ W2.rangeAt g (k * 32 + k3 * 32) (idc yb)) := ⟨by rw [← E1.out.1, ← E1.out.2]; exact HRb.out⟩
                clear HRb
                have HRb := HRb2
                clear HRb2
                have HQ := hide (eqd26 xb yb o1b o0b)
                go_upto_region 11 with fail
                go_cut [44] (fun s wc => s = .bool (!decide (xb = yb)) ∧ Below W2.heap.size W2 wc)
                case first =>
                  have hq := HQ.out
                  go_wp2_with fail
                  refine wp_region_held_drew (S := fun w' => w'.rangeAt g (k * 32 + k2 * 32) (idc xb) ∧ w'.rangeAt g (k * 32 + k3 * 32) (idc yb)) (by kernel_rfl) (R2 HRb.out.1 HRb.out.2 hgq ((Below.refl _ _).drew)) (fun hHeld => ?_)
                  refine wpAnyH_take (i := 0) (v := ?_) rfl (by kernel_rfl) (by kernel_rfl) (by kernel_rfl) (fun _ _ _ h => h) (Or.inl ⟨by rfl, ?hy0⟩) hHeld ?_
                  case hy0 => intro w hSw; go_simp; first | done | (with_reducible rfl)
                  simp only [Act.put, List.getElem_toArray, List.getElem_cons_zero, List.getElem_cons_succ, List.setIfInBounds_toArray, List.set_cons_zero, List.set_cons_succ]
                  refine wpAnyH_take (i := 1) (v := ?_) rfl (by kernel_rfl) (by kernel_rfl) (by kernel_rfl) (fun _ _ _ h => h) (Or.inl ⟨by rfl, ?hy1⟩) hHeld ?_
                  case hy1 => intro w hSw; go_simp; first | done | (with_reducible rfl)
                  simp only [Act.put, List.getElem_toArray, List.getElem_cons_zero, List.getElem_cons_succ, List.setIfInBounds_toArray, List.set_cons_zero, List.set_cons_succ]
                  refine wpAnyH_take (i := 2) (v := ?_) rfl (by kernel_rfl) (by kernel_rfl) (by kernel_rfl) (fun _ _ _ h => h) (Or.inl ⟨by rfl, ?hy2⟩) hHeld ?_
                  case hy2 => intro w hSw; go_simp; first | done | (with_reducible rfl)
                  simp only [Act.put, List.getElem_toArray, List.getElem_cons_zero, List.getElem_cons_succ, List.setIfInBounds_toArray, List.set_cons_zero, List.set_cons_succ]
                  refine wpAnyH_take (i := 3) (v := _) rfl (by kernel_rfl) (by kernel_rfl) (by kernel_rfl) (fun _ _ _ h => h) (yieldsIf_load_mid (by rfl) 26 (.tmp 37) rfl g (k * 32 + k2 * 32) rfl (idc xb) _ (fun _ h => h.1) Yba.underlying26 rfl s1b) hHeld ?_
                  simp only [Act.put, List.getElem_toArray, List.getElem_cons_zero, List.getElem_cons_succ, List.setIfInBounds_toArray, List.set_cons_zero, List.set_cons_succ]
                  refine wpAnyH_take (i := 4) (v := ?_) rfl (by kernel_rfl) (by kernel_rfl) (by kernel_rfl) (fun _ _ _ h => h) (Or.inl ⟨by rfl, ?hy4⟩) hHeld ?_
                  case hy4 => intro w hSw; go_simp; first | done | (with_reducible rfl)
                  simp only [Act.put, List.getElem_toArray, List.getElem_cons_zero, List.getElem_cons_succ, List.setIfInBounds_toArray, List.set_cons_zero, List.set_cons_succ]
                  refine wpAnyH_take (i := 5) (v := ?_) rfl (by kernel_rfl) (by kernel_rfl) (by kernel_rfl) (fun _ _ _ h => h) (Or.inl ⟨by rfl, ?hy5⟩) hHeld ?_
                  case hy5 => intro w hSw; go_simp; first | done | (with_reducible rfl)
                  simp only [Act.put, List.getElem_toArray, List.getElem_cons_zero, List.getElem_cons_succ, List.setIfInBounds_toArray, List.set_cons_zero, List.set_cons_succ]
                  refine wpAnyH_take (i := 6) (v := ?_) rfl (by kernel_rfl) (by kernel_rfl) (by kernel_rfl) (fun _ _ _ h => h) (Or.inl ⟨by rfl, ?hy6⟩) hHeld ?_
                  case hy6 => intro w hSw; go_simp; first | done | (with_reducible rfl)
                  simp only [Act.put, List.getElem_toArray, List.getElem_cons_zero, List.getElem_cons_succ, List.setIfInBounds_toArray, List.set_cons_zero, List.set_cons_succ]
                  refine wpAnyH_take (i := 7) (v := ?_) rfl (by kernel_rfl) (by kernel_rfl) (by kernel_rfl) (fun _ _ _ h => h) (Or.inl ⟨by rfl, ?hy7⟩) hHeld ?_
                  case hy7 => intro w hSw; go_simp; first | done | (with_reducible rfl)
                  simp only [Act.put, List.getElem_toArray, List.getElem_cons_zero, List.getElem_cons_succ, List.setIfInBounds_toArray, List.set_cons_zero, List.set_cons_succ]
                  refine wpAnyH_take (i := 8) (v := _) rfl (by kernel_rfl) (by kernel_rfl) (by kernel_rfl) (fun _ _ _ h => h) (yieldsIf_load_mid (by rfl) 26 (.tmp 42) rfl g (k * 32 + k3 * 32) rfl (idc yb) _ (fun _ h => h.2) Yba.underlying26 rfl s0b) hHeld ?_
                  simp only [Act.put, List.getElem_toArray, List.getElem_cons_zero, List.getElem_cons_succ, List.setIfInBounds_toArray, List.set_cons_zero, List.set_cons_succ]
                  refine wpAnyH_take (i := 9) (v := ?_) rfl (by kernel_rfl) (by kernel_rfl) (by kernel_rfl) (fun _ _ _ h => h) (Or.inl ⟨by rfl, ?hy9⟩) hHeld ?_
                  case hy9 => intro w hSw; go_simp; first | done | (with_reducible rfl)
                  simp only [Act.put, List.getElem_toArray, List.getElem_cons_zero, List.getElem_cons_succ, List.setIfInBounds_toArray, List.set_cons_zero, List.set_cons_succ]
                  refine wpAnyH_done (by kernel_rfl) ?_ _
                  go_wp2
                  go_meet
                  exact ⟨by first | rfl | simp, by exact ((Below.refl _ _).drew)⟩
                case rest =>
                  clear HQ
                  obtain ⟨hs, hbc⟩ := hcut
                  subst hs
                  have HSb := hide (HSq.out.below hgq hbc)
                  have hgb : g < wc.heap.size := by have := hbc.size; have := hgq; omega
                  clear hbc
                  by_cases hxy : xb = yb
                  · have HC2 : Hid (CI d cur m (k + (k2 + 1))) := ⟨by
                      have := HCI2.out.skip (by rw [← HP.out.1]; exact hpl) (by rw [← HP.out.1, ← HP.out.2.1, ← HP.out.2.2, ← HXb.out.1, ← HXb.out.2]; exact hxy)
                      exact this⟩
                    rw [decide_eq_true hxy]
                    clear hxy
                    go_wp2
                    go_roundw
                    case rel => exact ⟨m, k2 + 1, cur, rfl, by go_num, by omega, by omega, by omega, HC2, hcs, HSb.out⟩
                    case measure => simp [intOf] <;> omega
                  · have HC2 : Hid (CI d (cur.setIfInBounds m xb) (m + 1) (k + (k2 + 1))) := ⟨by
                      have h1 := HCI2.out.take HSD.out (by rw [← HP.out.1]; exact hpl) (by rw [← HP.out.1, ← HP.out.2.1, ← HP.out.2.2, ← HXb.out.1, ← HXb.out.2]; exact hxy)
                      rw [← HP.out.1, ← HP.out.2.1, ← HXb.out.1, HP.out.1] at h1
                      exact h1⟩
                    rw [decide_eq_false hxy]
                    have hml : m < d.size := by omega
                    have hmi : (m : Int) < d.size := by omega
                    have r1 : wc.rangeAt g (k * 32 + k2 * 32) (idc xb) := by rw [← E1.out.1, HXb.out.1]; exact HSb.out.row p (by omega)
                    have t1 := HSb.out.there (x := m) (by omega)
                    have l1 : (idc xb).length = 32 := by rw [idc_len, o1b]
                    have HRT := hide (And.intro r1 t1)
                    have HST := hide (HSb.out.store (i := m) (by omega) xb o1b)
                    clear hxy r1 t1
                    go_upto_region 12 with fail
                    go_wp2_with (first
                      | (refine wpList_load_mid rfl 26 (.tmp 49) rfl g (k * 32 + k2 * 32) rfl (idc xb) _ HRT.out.1 Yba.underlying26 rfl s1b ?_)
                      | (refine wpList_store_mid rfl 26 (.tmp 51) (.tmp 50) rfl g (m * 32) (idc xb).toArray rfl rfl (by rw [List.size_toArray, l1]; exact HRT.out.2) (by rw [List.size_toArray]; exact s1b) (by simpa using idc_one xb) ?_))
                    go_roundw
                    case rel => exact ⟨m + 1, k2 + 1, cur.setIfInBounds m xb, by go_num, by go_num, by omega, by omega, by omega, HC2, by rw [Array.size_setIfInBounds]; exact hcs, HST.out⟩
                    case measure => simp [intOf] <;> omega
              · have y1 : ¬ (k2 : Int) < n2 := by omega
                have hpe : k + k2 = d.size := by omega
                have hc := HCI2.out
                rw [hpe] at hc
                have HF := hide hc.done
                have hml : m < d.size := by have := hc.kp; omega
                have hcl := fun ty => clear_ids W2 ty g (m * 32) (d.size - m) (d.size - m) (by omega) (HSq.out.there_rest (k := m) (n := d.size - m) (by omega))
                have HSR := hide (HSq.out.cleared (k := m) (by omega) (Builtin.zeroCells z32.toArray (d.size - m)).toList)
                have hrs : (cur.extract 0 m).size = m := by simp; omega
                obtain ⟨W3, hW3⟩ : ∃ W3, W3 = W2.setCells g (m * 32) (Builtin.zeroCells z32.toArray (d.size - m)).toList := ⟨_, rfl⟩
                rw [← hW3] at HSR
                simp only [← hW3] at hcl
                have HRS := hide hrs
                have hmi : ¬ (d.size : Int) < m := by omega
                clear hc hrs hW3
                go_wp2
                go_ret
                exact ⟨cur.extract 0 m, by rw [HRS.out]; rfl, HSR.out, HF.out⟩
          · have HA2 : Hid (∀ i j, i < j → j < k + 1 → d[i]! < d[j]!) := ⟨asc_step HSD.out hk1 hkl HA.out (by rw [← HK.out, ← HXa.out.1, ← HXa.out.2]; exact hxy)⟩
            rw [decide_eq_false hxy]
            go_wp2
            go_roundw
            case rel => exact ⟨k + 1, by go_num, by omega, by omega, HA2, HSa.out⟩
            case measure => simp [intOf] <;> omega
      · have z1 : ¬ (k : Int) < d.size := by omega
        have HF : Hid (CF d d) := ⟨CF.whole (fun i j hij hj => HA.out i j hij (by omega))⟩
        go_wp2
        go_ret
        exact ⟨d, rfl, HS.out, HF.out⟩
end Go.Proofs.Ybulkcgfi
