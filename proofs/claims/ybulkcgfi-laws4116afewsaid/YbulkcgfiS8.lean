import Derived.Test.YbulkcgfiS7
namespace Go.Proofs.Ybulkcgfi
open Go.RowKit
set_option linter.unusedVariables false
set_option linter.unusedSimpArgs false
set_option maxRecDepth 100000
theorem size_sd (lt : ID → ID → Bool) (hi F : Nat) : ∀ (n root : Nat) (d : Array ID), hi - root ≤ n → (Sort.siftDown lt hi F root d).size = d.size := by
  intro n
  induction n with
  | zero => intro root d h; rw [Sort.siftDown, dif_pos (by omega)]
  | succ n ih =>
    intro root d h
    by_cases hc : 2 * root + 1 < hi
    · obtain ⟨ch, hch⟩ : ∃ ch : Nat, ch = if (decide (2 * root + 1 + 1 < hi) && lt d[F + (2 * root + 1)]! d[F + (2 * root + 1) + 1]!) = true then 2 * root + 2 else 2 * root + 1 := ⟨_, rfl⟩
      rw [sd_step d hc hch]
      have : root < ch := by rw [hch]; split <;> omega
      split
      · rw [ih _ _ (by omega), size_swp']
      · rfl
    · rw [sd_end' d (by omega)]
/-- siftDown, the row as it is by then. -/
theorem sift_at (g cap lo hi F n : Nat) (dk : Array ID) (w wr : World) (hS : SR w g dk wr) (hg : g < w.heap.size) (hd : dk.size = n) (hlo : lo ≤ 1024) (hF : F + hi ≤ n) (hn : n ≤ 1024) :
    Calls Yba.prog 26 #[.slice (some ⟨g, 0, none⟩) n cap, .int .i64 lo, .int .i64 hi, .int .i64 F, .func (.func 8) #[] #[]] wr fun e w' => e = .returned (.tuple #[]) ∧ SR w g (Sort.siftDown Sort.ltStr hi F lo dk) w' := by
  subst hd
  exact (sift_any g cap lo hi F dk wr hS.self (by have := hS.fw.size; omega) hlo hF hn).mono (fun e w' h => ⟨h.1, hS.trans h.2⟩)
/-- The counter when k rounds are left. -/
def kv : Nat → Value
  | 0 => .int .i64 (-1)
  | k + 1 => .int .i64 k
theorem kv_pred (k : Nat) : Value.int .i64 ((k : Int) - 1) = kv k := by
  cases k with
  | zero => rfl
  | succ k => unfold kv; congr 1; omega
set_option maxHeartbeats 8000000 in
theorem heap_any (g cap a b : Nat) (d : Array ID) (w : World) (h0 : SR w g d w) (hg : g < w.heap.size) (hab : a < b) (hb : b ≤ d.size) (hn : d.size ≤ 1024) :
    Calls Yba.prog 16 #[.slice (some ⟨g, 0, none⟩) d.size cap, .int .i64 a, .int .i64 b, .func (.func 8) #[] #[]] w fun e w' => e = .returned (.tuple #[]) ∧ SR w g (Sort.heapSort Sort.ltStr d a b) w' := by
  have H0 := hide h0
  clear h0
  obtain ⟨L, hL⟩ : ∃ L, L = b - a := ⟨_, rfl⟩
  obtain ⟨L', hL'⟩ : ∃ L', L' = L - 1 := ⟨_, rfl⟩
  obtain ⟨q, hq⟩ : ∃ q, q = L' / 2 := ⟨_, rfl⟩
  have m1 : IntKind.i64.wrap ((b : Int) - (a : Int)) = L := by rw [wrap_in _ (by omega) (by omega)]; omega
  have m2 : IntKind.i64.wrap ((L : Int) - 1) = L' := by rw [wrap_in _ (by omega) (by omega)]; omega
  have m3 : (L' : Int) / 2 = q := by omega
  have m4 : (L' : Int).tdiv 2 = q := by rw [Int.tdiv_eq_ediv_of_nonneg (by omega)]; omega
  have m5 : IntKind.i64.wrap (q : Int) = q := wrap_in _ (by omega) (by omega)
  have HE : Hid (Sort.heapSort Sort.ltStr d a b = Sort.heapPop Sort.ltStr a L (Sort.heapBuild Sort.ltStr L a (q + 1) d)) := ⟨by unfold Sort.heapSort; rw [← hL, ← hL', ← hq]⟩
  have hLs : a + L ≤ d.size := by omega
  have hL1 : 0 < L := by omega
  have HLL : Hid (L = L' + 1) := ⟨by omega⟩
  have hL2 : L' < L := by omega
  have hq2 : q ≤ L' := by omega
  clear hL hL' hq
  go_enter Yba.func16, Yba.ntmps16
  go_wp2_with fail
  go_loopw [11] (fun iv wr => ∃ (k : Nat) (dk : Array ID), k ≤ q + 1 ∧ iv = kv k ∧ dk.size = d.size ∧ SR w g dk wr ∧ Sort.heapBuild Sort.ltStr L a k dk = Sort.heapBuild Sort.ltStr L a (q + 1) d) (fun iv _ => (intOf iv + 1).toNat)
  case atStart => exact ⟨q + 1, d, by omega, rfl, rfl, H0.out, rfl⟩
  case round =>
    obtain ⟨k, dk, hk, hiv, hdk, hS, hO⟩ := hrel
    have hgr : g < wr.heap.size := by have := hS.fw.size; omega
    have HS := hide (And.intro hS hO)
    clear hS hO
    cases k with
    | succ k =>
      change _ = Value.int .i64 (k : Int) at hiv
      subst hiv
      have n1 : (0 : Int) ≤ k := by omega
      have n2 : IntKind.i64.wrap ((k : Int) - 1) = (k : Int) - 1 := wrap_in _ (by omega) (by omega)
      have HC := hide (sift_at g cap k L a d.size dk w wr HS.out.1 hg hdk (by omega) hLs hn)
      go_wp2_with (first | (go_at_call 26; refine HC.out.mono ?_; rintro e w1 ⟨rfl, hs1⟩; have HS1 := hide hs1; clear hs1))
      go_roundw
      case rel => exact ⟨k, _, by omega, kv_pred k, by rw [size_sd _ _ _ _ _ _ (Nat.le_refl _)]; exact hdk, HS1.out, by rw [← HS.out.2]; rfl⟩
      case measure => simp [intOf] <;> omega
    | zero =>
      change _ = Value.int .i64 (-1) at hiv
      subst hiv
      have HD : Hid (Sort.heapPop Sort.ltStr a L dk = Sort.heapSort Sort.ltStr d a b) := ⟨by rw [HE.out, ← HS.out.2]; rfl⟩
      go_wp2_with fail
      go_loopw [12] (fun iv wr => ∃ (k : Nat) (dj : Array ID), k ≤ L ∧ iv = kv k ∧ dj.size = d.size ∧ SR w g dj wr ∧ Sort.heapPop Sort.ltStr a k dj = Sort.heapSort Sort.ltStr d a b) (fun iv _ => (intOf iv + 1).toNat)
      case atStart => exact ⟨L, dk, by omega, by rw [HLL.out]; rfl, hdk, HS.out.1, HD.out⟩
      case round =>
        obtain ⟨k, dj, hk, hiv, hdj, hS, hO⟩ := hrel
        have hgj : g < wr.heap.size := by have := hS.fw.size; omega
        have HT := hide (And.intro hS hO)
        clear hS hO HS HD
        cases k with
        | succ k =>
          change _ = Value.int .i64 (k : Int) at hiv
          subst hiv
          have n1 : (0 : Int) ≤ k := by omega
          have n2 : IntKind.i64.wrap ((k : Int) - 1) = (k : Int) - 1 := wrap_in _ (by omega) (by omega)
          obtain ⟨p, hp⟩ : ∃ p, p = a + k := ⟨_, rfl⟩
          have n3 : IntKind.i64.wrap ((a : Int) + (k : Int)) = p := by rw [wrap_in _ (by omega) (by omega)]; omega
          have hp1 : p < d.size := by omega
          have HP := hide hp
          clear hp
          have hSda := HT.out.1.below hgj ((Below.refl _ _).drew)
          have HSWa := hSda.swap (i := a) (j := p) (by omega) (by omega)
          have r1a := hSda.row p (by omega)
          have r0a := hSda.row a (by omega)
          have o1a := hSda.ok p (by omega)
          have o0a := hSda.ok a (by omega)
          have t0a := hSda.there (x := a) (by omega)
          have t1a := (hSda.store (i := a) (by omega) dj[p]! o1a).there (x := p) (by rw [Array.size_setIfInBounds]; omega)
          obtain ⟨xa, hxa⟩ : ∃ x, x = dj[p]! := ⟨_, rfl⟩
          obtain ⟨ya, hya⟩ : ∃ y, y = dj[a]! := ⟨_, rfl⟩
          rw [← hxa] at r1a o1a t1a
          rw [← hya] at r0a o0a
          rw [← hxa, ← hya] at HSWa
          have HSWa := hide HSWa
          have b1a : ((p : Nat) : Int) < d.size := by omega
          have b0a : ((a : Nat) : Int) < d.size := by omega
          have b3a : p < d.size := by omega
          have b2a : a < d.size := by omega
          have s1a : (Yba.prog.info? 26).map (·.size) = some (idc xa).length := by rw [idc_len, o1a]; exact info26
          have s0a : (Yba.prog.info? 26).map (·.size) = some (idc ya).length := by rw [idc_len, o0a]; exact info26
          have l1a : (idc xa).length = 32 := by rw [idc_len, o1a]
          have l0a : (idc ya).length = 32 := by rw [idc_len, o0a]
          have HRTa := hide (And.intro r1a (And.intro r0a (And.intro t0a t1a)))
          clear hxa hya r1a r0a t0a t1a hSda
          go_upto_region 10 with fail
          go_cut [] (fun wc => SR w g (Sort.swp dj a p) wc ∧ wr.heap.size ≤ wc.heap.size)
          case first =>
            go_wp2_with fail
            refine wp_region_any (by kernel_rfl) ?_
            change wpAny _ _ _ _ _ _ _ (World.drew _)
            refine wpAny_take (i := 0) (v := ?v0) rfl (by kernel_rfl) (by kernel_rfl) (by kernel_rfl) (fun _ _ _ h => h) (Or.inl ⟨by rfl, ?hy0⟩) ?_
            case hy0 => intro w; go_simp; first | done | (with_reducible rfl)
            simp only [Act.put, List.getElem_toArray, List.getElem_cons_zero, List.getElem_cons_succ, List.setIfInBounds_toArray, List.set_cons_zero, List.set_cons_succ]
            refine wpAny_take (i := 1) (v := ?v1) rfl (by kernel_rfl) (by kernel_rfl) (by kernel_rfl) (fun _ _ _ h => h) (Or.inl ⟨by rfl, ?hy1⟩) ?_
            case hy1 => intro w; go_simp; first | done | (with_reducible rfl)
            simp only [Act.put, List.getElem_toArray, List.getElem_cons_zero, List.getElem_cons_succ, List.setIfInBounds_toArray, List.set_cons_zero, List.set_cons_succ]
            refine wpAny_take (i := 2) (v := ?v2) rfl (by kernel_rfl) (by kernel_rfl) (by kernel_rfl) (fun _ _ _ h => h) (Or.inl ⟨by rfl, ?hy2⟩) ?_
            case hy2 => intro w; go_simp; first | done | (with_reducible rfl)
            simp only [Act.put, List.getElem_toArray, List.getElem_cons_zero, List.getElem_cons_succ, List.setIfInBounds_toArray, List.set_cons_zero, List.set_cons_succ]
            refine wpAny_take (i := 3) (v := ?v3) rfl (by kernel_rfl) (by kernel_rfl) (by kernel_rfl) (fun _ _ _ h => h) (Or.inl ⟨by rfl, ?hy3⟩) ?_
            case hy3 => intro w; go_simp; first | done | (with_reducible rfl)
            simp only [Act.put, List.getElem_toArray, List.getElem_cons_zero, List.getElem_cons_succ, List.setIfInBounds_toArray, List.set_cons_zero, List.set_cons_succ]
            refine wpAny_take (i := 4) (v := ?v4) rfl (by kernel_rfl) (by kernel_rfl) (by kernel_rfl) (fun _ _ _ h => h) (Or.inl ⟨by rfl, ?hy4⟩) ?_
            case hy4 => intro w; go_simp; first | done | (with_reducible rfl)
            simp only [Act.put, List.getElem_toArray, List.getElem_cons_zero, List.getElem_cons_succ, List.setIfInBounds_toArray, List.set_cons_zero, List.set_cons_succ]
            refine wpAny_take (i := 5) (v := ?v5) rfl (by kernel_rfl) (by kernel_rfl) (by kernel_rfl) (fun _ _ _ h => h) (Or.inl ⟨by rfl, ?hy5⟩) ?_
            case hy5 => intro w; go_simp; first | done | (with_reducible rfl)
            simp only [Act.put, List.getElem_toArray, List.getElem_cons_zero, List.getElem_cons_succ, List.setIfInBounds_toArray, List.set_cons_zero, List.set_cons_succ]
            refine wpAny_take (i := 6) (v := ?v6) rfl (by kernel_rfl) (by kernel_rfl) (by kernel_rfl) (fun _ _ _ h => h) (Or.inl ⟨by rfl, ?hy6⟩) ?_
            case hy6 => intro w; go_simp; first | done | (with_reducible rfl)
            simp only [Act.put, List.getElem_toArray, List.getElem_cons_zero, List.getElem_cons_succ, List.setIfInBounds_toArray, List.set_cons_zero, List.set_cons_succ]
            refine wpAny_take (i := 7) (v := ?v7) rfl (by kernel_rfl) (by kernel_rfl) (by kernel_rfl) (fun _ _ _ h => h) (Or.inl ⟨by rfl, ?hy7⟩) ?_
            case hy7 => intro w; go_simp; first | done | (with_reducible rfl)
            simp only [Act.put, List.getElem_toArray, List.getElem_cons_zero, List.getElem_cons_succ, List.setIfInBounds_toArray, List.set_cons_zero, List.set_cons_succ]
            refine wpAny_take (i := 8) (v := ?v8) rfl (by kernel_rfl) (by kernel_rfl) (by kernel_rfl) (fun _ _ _ h => h) (Or.inl ⟨by rfl, ?hy8⟩) ?_
            case hy8 => intro w; go_simp; first | done | (with_reducible rfl)
            simp only [Act.put, List.getElem_toArray, List.getElem_cons_zero, List.getElem_cons_succ, List.setIfInBounds_toArray, List.set_cons_zero, List.set_cons_succ]
            refine wpAny_take (i := 9) (v := ?v9) rfl (by kernel_rfl) (by kernel_rfl) (by kernel_rfl) (fun _ _ _ h => h) (Or.inl ⟨by rfl, ?hy9⟩) ?_
            case hy9 => intro w; go_simp; first | done | (with_reducible rfl)
            simp only [Act.put, List.getElem_toArray, List.getElem_cons_zero, List.getElem_cons_succ, List.setIfInBounds_toArray, List.set_cons_zero, List.set_cons_succ]
            refine wpAny_take (i := 10) (v := ?v10) rfl (by kernel_rfl) (by kernel_rfl) (by kernel_rfl) (fun _ _ _ h => h) (Or.inl ⟨by rfl, ?hy10⟩) ?_
            case hy10 => intro w; go_simp; first | done | (with_reducible rfl)
            simp only [Act.put, List.getElem_toArray, List.getElem_cons_zero, List.getElem_cons_succ, List.setIfInBounds_toArray, List.set_cons_zero, List.set_cons_succ]
            refine wpAny_take (i := 12) (v := ?v12) rfl (by kernel_rfl) (by kernel_rfl) (by kernel_rfl) (fun _ _ _ h => h) (Or.inl ⟨by rfl, ?hy12⟩) ?_
            case hy12 => intro w; go_simp; first | done | (with_reducible rfl)
            simp only [Act.put, List.getElem_toArray, List.getElem_cons_zero, List.getElem_cons_succ, List.setIfInBounds_toArray, List.set_cons_zero, List.set_cons_succ]
            refine wpAny_take (i := 13) (v := ?v13) rfl (by kernel_rfl) (by kernel_rfl) (by kernel_rfl) (fun _ _ _ h => h) (Or.inl ⟨by rfl, ?hy13⟩) ?_
            case hy13 => intro w; go_simp; first | done | (with_reducible rfl)
            simp only [Act.put, List.getElem_toArray, List.getElem_cons_zero, List.getElem_cons_succ, List.setIfInBounds_toArray, List.set_cons_zero, List.set_cons_succ]
            refine wpAny_take (i := 14) (v := ?v14) rfl (by kernel_rfl) (by kernel_rfl) (by kernel_rfl) (fun _ _ _ h => h) (Or.inl ⟨by rfl, ?hy14⟩) ?_
            case hy14 => intro w; go_simp; first | done | (with_reducible rfl)
            simp only [Act.put, List.getElem_toArray, List.getElem_cons_zero, List.getElem_cons_succ, List.setIfInBounds_toArray, List.set_cons_zero, List.set_cons_succ]
            refine wpAny_ready (rs := [11, 15]) (by kernel_rfl) (by simp) ?_
            refine AllReady.cons rfl (fun K hK => ?_) (AllReady.cons rfl (fun K hK => ?_) AllReady.nil)
            · rw [if_pos (by rfl)]
              refine wp_load_mid 26 (.tmp 46) rfl g (p * 32) rfl (idc xa) _ (HRTa.out.1) Yba.underlying26 rfl s1a ?_
              refine hK _ _ ?_
              clear hK K
              simp only [Act.put, List.getElem_toArray, List.getElem_cons_zero, List.getElem_cons_succ, List.setIfInBounds_toArray, List.set_cons_zero, List.set_cons_succ]
              refine wpAny_ready (rs := [15]) (by kernel_rfl) (by simp) ?_
              refine AllReady.cons rfl (fun K hK => ?_) AllReady.nil
              rw [if_pos (by rfl)]
              refine wp_load_mid 26 (.tmp 50) rfl g (a * 32) rfl (idc ya) _ (HRTa.out.2.1) Yba.underlying26 rfl s0a ?_
              refine hK _ _ ?_
              clear hK K
              simp only [Act.put, List.getElem_toArray, List.getElem_cons_zero, List.getElem_cons_succ, List.setIfInBounds_toArray, List.set_cons_zero, List.set_cons_succ]
              refine wpAny_take (i := 16) (v := ?v16) rfl (by kernel_rfl) (by kernel_rfl) (by kernel_rfl) (fun _ _ _ h => h) (Or.inl ⟨by rfl, ?hy16⟩) ?_
              case hy16 => intro w; go_simp; first | done | (with_reducible rfl)
              simp only [Act.put, List.getElem_toArray, List.getElem_cons_zero, List.getElem_cons_succ, List.setIfInBounds_toArray, List.set_cons_zero, List.set_cons_succ]
              refine wpAny_ready (rs := [17]) (by kernel_rfl) (by simp) ?_
              refine AllReady.cons rfl (fun K hK => ?_) AllReady.nil
              rw [if_pos (by rfl)]
              refine wp_store_mid 26 (.tmp 52) (.tmp 47) rfl g (a * 32) (idc xa).toArray rfl rfl (by rw [List.size_toArray, l1a]; exact HRTa.out.2.2.1) (by rw [List.size_toArray]; exact s1a) (by simpa using idc_one xa) ?_
              refine hK _ _ ?_
              clear hK K
              simp only [Act.put, List.getElem_toArray, List.getElem_cons_zero, List.getElem_cons_succ, List.setIfInBounds_toArray, List.set_cons_zero, List.set_cons_succ]
              refine wpAny_take (i := 18) (v := ?v18) rfl (by kernel_rfl) (by kernel_rfl) (by kernel_rfl) (fun _ _ _ h => h) (Or.inl ⟨by rfl, ?hy18⟩) ?_
              case hy18 => intro w; go_simp; first | done | (with_reducible rfl)
              simp only [Act.put, List.getElem_toArray, List.getElem_cons_zero, List.getElem_cons_succ, List.setIfInBounds_toArray, List.set_cons_zero, List.set_cons_succ]
              refine wpAny_ready (rs := [19]) (by kernel_rfl) (by simp) ?_
              refine AllReady.cons rfl (fun K hK => ?_) AllReady.nil
              rw [if_pos (by rfl)]
              refine wp_store_mid 26 (.tmp 53) (.tmp 51) rfl g (p * 32) (idc ya).toArray rfl rfl (by rw [List.size_toArray, l0a]; exact HRTa.out.2.2.2) (by rw [List.size_toArray]; exact s0a) (by simpa using idc_one ya) ?_
              refine hK _ _ ?_
              clear hK K
              simp only [Act.put, List.getElem_toArray, List.getElem_cons_zero, List.getElem_cons_succ, List.setIfInBounds_toArray, List.set_cons_zero, List.set_cons_succ]
              refine wpAny_done (by kernel_rfl) ?_ _
              go_wp2
              go_meet
              exact ⟨HSWa.out, by rw [sc_size, sc_size]; exact Nat.le_refl _⟩
            · rw [if_pos (by rfl)]
              refine wp_load_mid 26 (.tmp 50) rfl g (a * 32) rfl (idc ya) _ (HRTa.out.2.1) Yba.underlying26 rfl s0a ?_
              refine hK _ _ ?_
              clear hK K
              simp only [Act.put, List.getElem_toArray, List.getElem_cons_zero, List.getElem_cons_succ, List.setIfInBounds_toArray, List.set_cons_zero, List.set_cons_succ]
              refine wpAny_ready (rs := [11]) (by kernel_rfl) (by simp) ?_
              refine AllReady.cons rfl (fun K hK => ?_) AllReady.nil
              rw [if_pos (by rfl)]
              refine wp_load_mid 26 (.tmp 46) rfl g (p * 32) rfl (idc xa) _ (HRTa.out.1) Yba.underlying26 rfl s1a ?_
              refine hK _ _ ?_
              clear hK K
              simp only [Act.put, List.getElem_toArray, List.getElem_cons_zero, List.getElem_cons_succ, List.setIfInBounds_toArray, List.set_cons_zero, List.set_cons_succ]
              refine wpAny_take (i := 16) (v := ?v16) rfl (by kernel_rfl) (by kernel_rfl) (by kernel_rfl) (fun _ _ _ h => h) (Or.inl ⟨by rfl, ?hy16⟩) ?_
              case hy16 => intro w; go_simp; first | done | (with_reducible rfl)
              simp only [Act.put, List.getElem_toArray, List.getElem_cons_zero, List.getElem_cons_succ, List.setIfInBounds_toArray, List.set_cons_zero, List.set_cons_succ]
              refine wpAny_ready (rs := [17]) (by kernel_rfl) (by simp) ?_
              refine AllReady.cons rfl (fun K hK => ?_) AllReady.nil
              rw [if_pos (by rfl)]
              refine wp_store_mid 26 (.tmp 52) (.tmp 47) rfl g (a * 32) (idc xa).toArray rfl rfl (by rw [List.size_toArray, l1a]; exact HRTa.out.2.2.1) (by rw [List.size_toArray]; exact s1a) (by simpa using idc_one xa) ?_
              refine hK _ _ ?_
              clear hK K
              simp only [Act.put, List.getElem_toArray, List.getElem_cons_zero, List.getElem_cons_succ, List.setIfInBounds_toArray, List.set_cons_zero, List.set_cons_succ]
              refine wpAny_take (i := 18) (v := ?v18) rfl (by kernel_rfl) (by kernel_rfl) (by kernel_rfl) (fun _ _ _ h => h) (Or.inl ⟨by rfl, ?hy18⟩) ?_
              case hy18 => intro w; go_simp; first | done | (with_reducible rfl)
              simp only [Act.put, List.getElem_toArray, List.getElem_cons_zero, List.getElem_cons_succ, List.setIfInBounds_toArray, List.set_cons_zero, List.set_cons_succ]
              refine wpAny_ready (rs := [19]) (by kernel_rfl) (by simp) ?_
              refine AllReady.cons rfl (fun K hK => ?_) AllReady.nil
              rw [if_pos (by rfl)]
              refine wp_store_mid 26 (.tmp 53) (.tmp 51) rfl g (p * 32) (idc ya).toArray rfl rfl (by rw [List.size_toArray, l0a]; exact HRTa.out.2.2.2) (by rw [List.size_toArray]; exact s0a) (by simpa using idc_one ya) ?_
              refine hK _ _ ?_
              clear hK K
              simp only [Act.put, List.getElem_toArray, List.getElem_cons_zero, List.getElem_cons_succ, List.setIfInBounds_toArray, List.set_cons_zero, List.set_cons_succ]
              refine wpAny_done (by kernel_rfl) ?_ _
              go_wp2
              go_meet
              exact ⟨HSWa.out, by rw [sc_size, sc_size]; exact Nat.le_refl _⟩
          case rest =>
            have HSa := hide hcut.1
            have hga : g < wc.heap.size := by have := hcut.2; have := hgj; omega
            clear hcut HSWa HRTa
            have HC := hide (sift_at g cap 0 k a d.size (Sort.swp dj a p) w wc HSa.out hg (by rw [size_swp']; exact hdj) (by omega) (by omega) hn)
            go_wp2_with (first | (go_at_call 26; refine HC.out.mono ?_; rintro e w1 ⟨rfl, hs1⟩; have HS1 := hide hs1; clear hs1))
            go_roundw
            case rel => exact ⟨k, _, by omega, kv_pred k, by rw [size_sd _ _ _ _ _ _ (Nat.le_refl _), size_swp']; exact hdj, HS1.out, by rw [← HT.out.2, HP.out]; rfl⟩
            case measure => simp [intOf] <;> omega
        | zero =>
          change _ = Value.int .i64 (-1) at hiv
          subst hiv
          have HF : Hid (SR w g (Sort.heapSort Sort.ltStr d a b) wr) := ⟨by rw [← HT.out.2]; exact HT.out.1⟩
          go_wp2
          go_end0
          exact ⟨rfl, HF.out⟩
end Go.Proofs.Ybulkcgfi
