import Derived.Test.YbulkcgegD3
import Derived.BigRegion
namespace Go.Proofs.Ybulkcgeg
open Go.RowKit
set_option linter.unusedVariables false
set_option linter.unusedSimpArgs false
theorem hless_at (hb ho T K nc i j : Nat) (x y : Int) (hx : x = i) (hy : y = j) (f : Nat → Wt) (w : World) (hnc : nc ≤ 4) (hi : i < nc * 1024) (hj : j < nc * 1024) (hc : w.cell? ⟨hb, ho, none⟩ = some (.slice (some ⟨T, 0, none⟩) nc nc)) (hf : HeapAt w T K nc f) :
    Calls Yba.prog 28 #[.pointer (some ⟨hb, ho, none⟩), .int .i64 x, .int .i64 y] w fun e w' => e = .returned (.bool (ltW (f i) (f j))) ∧ Below w.heap.size w w' := by
  subst hx hy; exact hless_any hb ho T K nc i j f w hnc hi hj hc hf
theorem at_at (hb ho T K nc i p o : Nat) (x : Int) (hx : x = i) (hp : p = K + i / 1024) (ho' : o = i % 1024 * 5) (w : World) (hnc : nc ≤ 4) (hi : i < nc * 1024) (hc : w.cell? ⟨hb, ho, none⟩ = some (.slice (some ⟨T, 0, none⟩) nc nc)) (ht : ∀ c, c < nc → w.cell? ⟨T, c, none⟩ = some (.slice (some ⟨K + c, 0, none⟩) 1024 1024)) :
    Calls Yba.prog 12 #[.pointer (some ⟨hb, ho, none⟩), .int .i64 x] w fun e w' => e = .returned (.pointer (some ⟨p, o, none⟩)) ∧ w' = w := by
  subst hx hp ho'; exact at_any hb ho T K nc i w hnc hi hc ht
theorem HeapAt.drew {w : World} {T K nc : Nat} {f : Nat → Wt} (h : HeapAt w T K nc f) : HeapAt w.drew T K nc f :=
  ⟨h.tab, h.thaw, fun i hi => let t := h.at_ i hi; ⟨t.c0, t.c1, t.c2, t.c3, t.c4⟩⟩
theorem SI.leaf1 {n : Nat} {f : Nat → Wt} {i0 k : Nat} (h : SI ltW n f i0 k) (h1 : ltW (f (2 * k + 1)) (f k) = false) (h2 : 2 * k + 2 < n → ltW (f (2 * k + 2)) (f k) = false) : HP ltW n f i0 := by
  refine h.done fun c h0 hc e => ?_
  have : c = 2 * k + 1 ∨ c = 2 * k + 2 := by omega
  rcases this with rfl | rfl
  · exact h1
  · exact h2 hc
theorem SI.to1 {n : Nat} {f : Nat → Wt} {i0 k : Nat} (h : SI ltW n f i0 k) (hn : 2 * k + 1 < n) (h1 : ltW (f (2 * k + 1)) (f k) = true) (h2 : 2 * k + 2 < n → ltW (f (2 * k + 2)) (f (2 * k + 1)) = false) : SI ltW n (swp f k (2 * k + 1)) i0 (2 * k + 1) := by
  refine h.step ltW_asym (by omega) hn (by omega) h1 fun c h0 hc e hne => ?_
  have : c = 2 * k + 2 := by omega
  subst this; exact h2 hc
theorem SI.to2 {n : Nat} {f : Nat → Wt} {i0 k : Nat} (h : SI ltW n f i0 k) (hn : 2 * k + 2 < n) (h1 : ltW (f (2 * k + 2)) (f k) = true) (h2 : ltW (f (2 * k + 1)) (f (2 * k + 2)) = false) : SI ltW n (swp f k (2 * k + 2)) i0 (2 * k + 2) := by
  refine h.step ltW_asym (by omega) hn (by omega) h1 fun c h0 hc e hne => ?_
  have : c = 2 * k + 1 := by omega
  subst this; exact h2
set_option maxRecDepth 100000 in
set_option maxHeartbeats 4000000 in
theorem down_any (hb ho T K nc n i0 : Nat) (f : Nat → Wt) (w : World) (hnc : nc ≤ 4) (hn : n ≤ nc * 1024) (hi : i0 < n) (hT : T < K) (hout : hb < K ∨ K + nc ≤ hb) (hc : w.cell? ⟨hb, ho, none⟩ = some (.slice (some ⟨T, 0, none⟩) nc nc))
    (hcn : w.cell? ⟨hb, ho + 1, none⟩ = some (.int .i64 n)) (hf : HeapAt w T K nc f) (hp : HP ltW n f (i0 + 1)) :
    Calls Yba.prog 24 #[.pointer (some ⟨hb, ho, none⟩), .int .i64 i0] w fun e w' => e = .returned (.tuple #[]) ∧ (∃ f', HeapAt w' T K nc f' ∧ HP ltW n f' i0 ∧ Pm n f f') ∧ Fr (fun k => K ≤ k ∧ k < K + nc) w w' := by
  go_enter Yba.func24, Yba.ntmps24
  go_wp2
  go_loopw [1] (fun i wr => ∃ (k : Nat) (f' : Nat → Wt), k < n ∧ i = .int .i64 k ∧ HeapAt wr T K nc f' ∧ SI ltW n f' i0 k ∧ Pm n f f' ∧ Fr (fun k => K ≤ k ∧ k < K + nc) w wr) (fun i _ => n - (intOf i).toNat)
  case atStart => exact ⟨i0, f, hi, rfl, hf, SI.start hp, Pm.refl _ _, Fr.refl _ _⟩
  case round =>
    obtain ⟨k, f', hk, rfl, hf', hsi, hpm, hfr⟩ := hrel
    have hc' := hfr.cell (by omega) hc
    have hcn' := hfr.cell (by omega) hcn
    have gb : hb < wr.heap.size := World.block_lt_of_cell? _ _ hc'
    have HF := hide hf'
    have HS := hide (And.intro hsi (And.intro hpm hfr))
    clear hf hp hc hcn hf' hsi hpm hfr
    have i0f : ∀ (x y : Value) (w : World), (Instr.index 89 (.agg #[x, y]) (.int .i64 0)).run Yba.prog w = .ok x w := fun _ _ _ => by kernel_rfl
    have i1f : ∀ (x y : Value) (w : World), (Instr.index 89 (.agg #[x, y]) (.int .i64 1)).run Yba.prog w = .ok y w := fun _ _ _ => by kernel_rfl
    by_cases h1 : 2 * k + 1 < n
    · by_cases h2 : 2 * k + 2 < n
      · cases hb1 : ltW (f' (2 * k + 1)) (f' k) with
        | true =>
          cases hb2 : ltW (f' (2 * k + 2)) (f' (2 * k + 1)) with
          | true =>
            go_wp2
            refine wp_loop_rounds 3 ?_; rw [rounds_succ]
            go_wp2_with (go_at_call 28; refine (hless_at hb ho T K nc (2 * k + 1) k _ _ (by omega) (by omega) f' _ hnc (by omega) (by omega) hc' HF.out).mono ?_; rintro e w1 ⟨rfl, hw1⟩)
            have hcn1 := cell_later hw1 hcn'
            have hc1 := cell_later hw1 hc'
            have HF1 := hide (HF.out.below hw1)
            rw [rounds_succ]
            go_wp2_with (go_at_call 28; refine (hless_at hb ho T K nc (2 * k + 2) (2 * k + 1) _ _ (by omega) (by omega) f' _ hnc (by omega) (by omega) hc1 HF1.out).mono ?_; rintro e w2 ⟨rfl, hw2⟩)
            have hcn2 := cell_later hw2 hcn1
            rw [rounds_succ]
            go_wp2_with fail
            obtain ⟨l, hl⟩ : ∃ l, l = 2 * k + 2 := ⟨_, rfl⟩
            obtain ⟨p, hp⟩ : ∃ p, p = K + k / 1024 := ⟨_, rfl⟩
            obtain ⟨o, hoo⟩ : ∃ o, o = k % 1024 * 5 := ⟨_, rfl⟩
            obtain ⟨p2, hp2⟩ : ∃ p2, p2 = K + l / 1024 := ⟨_, rfl⟩
            obtain ⟨o2, hoo2⟩ : ∃ o2, o2 = l % 1024 * 5 := ⟨_, rfl⟩
            have HW := HF1.out.below hw2
            have hcX := cell_later hw2 hc1
            have hT1 := HW.tab
            have hWk := HW.at_ k (by omega)
            have hWl := HW.at_ l (by omega)
            have z1 : ∀ j, w2.frozen? ⟨p, j, none⟩ = false := fun j => by rw [hp]; exact HW.thaw (k / 1024) j (by omega)
            have z2 : ∀ j, w2.frozen? ⟨p2, j, none⟩ = false := fun j => by rw [hp2]; exact HW.thaw (l / 1024) j (by omega)
            have SW := HW.swap hT (i := k) (l := l) (by omega) (by omega) (by omega)
            have hS1 : K ≤ p ∧ p < K + nc := by omega
            have hS2 : K ≤ p2 ∧ p2 < K + nc := by omega
            have FR : ∀ (o o2 : Nat) (t u : Wt), Fr (fun k => K ≤ k ∧ k < K + nc) w (putWt (putWt w2 p o t) p2 o2 u) := fun o o2 t u => (Fr.put (Fr.put ((HS.out.2.2.trans (Fr.of_below hw1)).trans (Fr.of_below hw2)) (Or.inl hS1)) (Or.inl hS2))
            rw [← hp, ← hoo, ← hp2, ← hoo2] at SW
            rw [← hp, ← hoo] at hWk
            rw [← hp2, ← hoo2] at hWl
            have hSI : SI ltW n (swp f' k l) i0 l := by rw [hl]; exact HS.out.1.to2 h2 (ltW_tr _ _ _ hb2 hb1) (ltW_asym _ _ hb2)
            have hPM := HS.out.2.1.trans (Pm.swp (f := f') (i := k) (l := l) hk (by omega) (by omega))
            have REL := hide (And.intro SW (And.intro hSI (And.intro hPM (FR o o2 (f' l) (f' k)))))
            have HPO := hide (And.intro hp (And.intro hoo (And.intro hp2 (And.intro hoo2 hl))))
            have HT1 := hide hT1
            have hor : p < p2 ∨ (p = p2 ∧ o + 5 ≤ o2) := by omega
            have hln : l < n := by omega
            have hlk : k < l := by omega
            have hlb : l < nc * 1024 := by omega
            have hkb : k < nc * 1024 := by omega
            have hl' : 2 * (k : Int) + 2 = (l : Int) := by omega
            obtain ⟨c0, c1, c2, c3, c4⟩ := hWk
            obtain ⟨d0, d1, d2, d3, d4⟩ := hWl
            clear hT1 SW FR hSI hPM hl hS1 hS2 HF HS i0f i1f hc' hcn' hcn1 hp hoo hp2 hoo2 HW hb1 hb2 HF1 hcn2 hc1
            refine (at_at hb ho T K nc k p o _ rfl HPO.out.1 HPO.out.2.1 _ hnc hkb hcX HT1.out).mono ?_
            rintro e w3 ⟨rfl, rfl⟩
            go_wp2_with fail
            refine (at_at hb ho T K nc l p2 o2 _ (by have := HPO.out.2.2.2.2; omega) HPO.out.2.2.1 HPO.out.2.2.2.1 _ hnc hlb hcX HT1.out).mono ?_
            rintro e w3 ⟨rfl, rfl⟩
            clear hcX HT1
            have zz1 := z1 o; have zz2 := z1 (o + 1); have zz3 := z1 (o + 2); have zz4 := z1 (o + 3); have zz5 := z1 (o + 4)
            have yy1 := z2 o2; have yy2 := z2 (o2 + 1); have yy3 := z2 (o2 + 2); have yy4 := z2 (o2 + 3); have yy5 := z2 (o2 + 4)
            clear z1 z2
            rcases hor with hne | ⟨rfl, hoo⟩
            all_goals
              go_wp2
              go_region
              all_goals go_wp2
              all_goals go_roundw
              all_goals (first | exact ⟨l, swp f' k l, hln, rfl, REL.out.1.drew, REL.out.2.1, REL.out.2.2.1, REL.out.2.2.2.drew⟩ | (simp [intOf]; omega))
          | false =>
            go_wp2
            refine wp_loop_rounds 3 ?_; rw [rounds_succ]
            go_wp2_with (go_at_call 28; refine (hless_at hb ho T K nc (2 * k + 1) k _ _ (by omega) (by omega) f' _ hnc (by omega) (by omega) hc' HF.out).mono ?_; rintro e w1 ⟨rfl, hw1⟩)
            have hcn1 := cell_later hw1 hcn'
            have hc1 := cell_later hw1 hc'
            have HF1 := hide (HF.out.below hw1)
            rw [rounds_succ]
            go_wp2_with (go_at_call 28; refine (hless_at hb ho T K nc (2 * k + 2) (2 * k + 1) _ _ (by omega) (by omega) f' _ hnc (by omega) (by omega) hc1 HF1.out).mono ?_; rintro e w2 ⟨rfl, hw2⟩)
            have hcn2 := cell_later hw2 hcn1
            rw [rounds_succ]
            go_wp2_with fail
            obtain ⟨l, hl⟩ : ∃ l, l = 2 * k + 1 := ⟨_, rfl⟩
            obtain ⟨p, hp⟩ : ∃ p, p = K + k / 1024 := ⟨_, rfl⟩
            obtain ⟨o, hoo⟩ : ∃ o, o = k % 1024 * 5 := ⟨_, rfl⟩
            obtain ⟨p2, hp2⟩ : ∃ p2, p2 = K + l / 1024 := ⟨_, rfl⟩
            obtain ⟨o2, hoo2⟩ : ∃ o2, o2 = l % 1024 * 5 := ⟨_, rfl⟩
            have HW := HF1.out.below hw2
            have hcX := cell_later hw2 hc1
            have hT1 := HW.tab
            have hWk := HW.at_ k (by omega)
            have hWl := HW.at_ l (by omega)
            have z1 : ∀ j, w2.frozen? ⟨p, j, none⟩ = false := fun j => by rw [hp]; exact HW.thaw (k / 1024) j (by omega)
            have z2 : ∀ j, w2.frozen? ⟨p2, j, none⟩ = false := fun j => by rw [hp2]; exact HW.thaw (l / 1024) j (by omega)
            have SW := HW.swap hT (i := k) (l := l) (by omega) (by omega) (by omega)
            have hS1 : K ≤ p ∧ p < K + nc := by omega
            have hS2 : K ≤ p2 ∧ p2 < K + nc := by omega
            have FR : ∀ (o o2 : Nat) (t u : Wt), Fr (fun k => K ≤ k ∧ k < K + nc) w (putWt (putWt w2 p o t) p2 o2 u) := fun o o2 t u => (Fr.put (Fr.put ((HS.out.2.2.trans (Fr.of_below hw1)).trans (Fr.of_below hw2)) (Or.inl hS1)) (Or.inl hS2))
            rw [← hp, ← hoo, ← hp2, ← hoo2] at SW
            rw [← hp, ← hoo] at hWk
            rw [← hp2, ← hoo2] at hWl
            have hSI : SI ltW n (swp f' k l) i0 l := by rw [hl]; exact HS.out.1.to1 h1 hb1 (fun _ => hb2)
            have hPM := HS.out.2.1.trans (Pm.swp (f := f') (i := k) (l := l) hk (by omega) (by omega))
            have REL := hide (And.intro SW (And.intro hSI (And.intro hPM (FR o o2 (f' l) (f' k)))))
            have HPO := hide (And.intro hp (And.intro hoo (And.intro hp2 (And.intro hoo2 hl))))
            have HT1 := hide hT1
            have hor : p < p2 ∨ (p = p2 ∧ o + 5 ≤ o2) := by omega
            have hln : l < n := by omega
            have hlk : k < l := by omega
            have hlb : l < nc * 1024 := by omega
            have hkb : k < nc * 1024 := by omega
            have hl' : 2 * (k : Int) + 1 = (l : Int) := by omega
            obtain ⟨c0, c1, c2, c3, c4⟩ := hWk
            obtain ⟨d0, d1, d2, d3, d4⟩ := hWl
            clear hT1 SW FR hSI hPM hl hS1 hS2 HF HS i0f i1f hc' hcn' hcn1 hp hoo hp2 hoo2 HW hb1 hb2 HF1 hcn2 hc1
            refine (at_at hb ho T K nc k p o _ rfl HPO.out.1 HPO.out.2.1 _ hnc hkb hcX HT1.out).mono ?_
            rintro e w3 ⟨rfl, rfl⟩
            go_wp2_with fail
            refine (at_at hb ho T K nc l p2 o2 _ (by have := HPO.out.2.2.2.2; omega) HPO.out.2.2.1 HPO.out.2.2.2.1 _ hnc hlb hcX HT1.out).mono ?_
            rintro e w3 ⟨rfl, rfl⟩
            clear hcX HT1
            have zz1 := z1 o; have zz2 := z1 (o + 1); have zz3 := z1 (o + 2); have zz4 := z1 (o + 3); have zz5 := z1 (o + 4)
            have yy1 := z2 o2; have yy2 := z2 (o2 + 1); have yy3 := z2 (o2 + 2); have yy4 := z2 (o2 + 3); have yy5 := z2 (o2 + 4)
            clear z1 z2
            rcases hor with hne | ⟨rfl, hoo⟩
            all_goals
              go_wp2
              go_region
              all_goals go_wp2
              all_goals go_roundw
              all_goals (first | exact ⟨l, swp f' k l, hln, rfl, REL.out.1.drew, REL.out.2.1, REL.out.2.2.1, REL.out.2.2.2.drew⟩ | (simp [intOf]; omega))
        | false =>
          cases hb2 : ltW (f' (2 * k + 2)) (f' k) with
          | true =>
            go_wp2
            refine wp_loop_rounds 3 ?_; rw [rounds_succ]
            go_wp2_with (go_at_call 28; refine (hless_at hb ho T K nc (2 * k + 1) k _ _ (by omega) (by omega) f' _ hnc (by omega) (by omega) hc' HF.out).mono ?_; rintro e w1 ⟨rfl, hw1⟩)
            have hcn1 := cell_later hw1 hcn'
            have hc1 := cell_later hw1 hc'
            have HF1 := hide (HF.out.below hw1)
            rw [rounds_succ]
            go_wp2_with (go_at_call 28; refine (hless_at hb ho T K nc (2 * k + 2) (k) _ _ (by omega) (by omega) f' _ hnc (by omega) (by omega) hc1 HF1.out).mono ?_; rintro e w2 ⟨rfl, hw2⟩)
            have hcn2 := cell_later hw2 hcn1
            rw [rounds_succ]
            go_wp2_with fail
            obtain ⟨l, hl⟩ : ∃ l, l = 2 * k + 2 := ⟨_, rfl⟩
            obtain ⟨p, hp⟩ : ∃ p, p = K + k / 1024 := ⟨_, rfl⟩
            obtain ⟨o, hoo⟩ : ∃ o, o = k % 1024 * 5 := ⟨_, rfl⟩
            obtain ⟨p2, hp2⟩ : ∃ p2, p2 = K + l / 1024 := ⟨_, rfl⟩
            obtain ⟨o2, hoo2⟩ : ∃ o2, o2 = l % 1024 * 5 := ⟨_, rfl⟩
            have HW := HF1.out.below hw2
            have hcX := cell_later hw2 hc1
            have hT1 := HW.tab
            have hWk := HW.at_ k (by omega)
            have hWl := HW.at_ l (by omega)
            have z1 : ∀ j, w2.frozen? ⟨p, j, none⟩ = false := fun j => by rw [hp]; exact HW.thaw (k / 1024) j (by omega)
            have z2 : ∀ j, w2.frozen? ⟨p2, j, none⟩ = false := fun j => by rw [hp2]; exact HW.thaw (l / 1024) j (by omega)
            have SW := HW.swap hT (i := k) (l := l) (by omega) (by omega) (by omega)
            have hS1 : K ≤ p ∧ p < K + nc := by omega
            have hS2 : K ≤ p2 ∧ p2 < K + nc := by omega
            have FR : ∀ (o o2 : Nat) (t u : Wt), Fr (fun k => K ≤ k ∧ k < K + nc) w (putWt (putWt w2 p o t) p2 o2 u) := fun o o2 t u => (Fr.put (Fr.put ((HS.out.2.2.trans (Fr.of_below hw1)).trans (Fr.of_below hw2)) (Or.inl hS1)) (Or.inl hS2))
            rw [← hp, ← hoo, ← hp2, ← hoo2] at SW
            rw [← hp, ← hoo] at hWk
            rw [← hp2, ← hoo2] at hWl
            have hSI : SI ltW n (swp f' k l) i0 l := by rw [hl]; exact HS.out.1.to2 h2 hb2 (by cases hx : ltW (f' (2 * k + 1)) (f' (2 * k + 2)) with | false => rfl | true => have := ltW_tr _ _ _ hx hb2; rw [hb1] at this; cases this)
            have hPM := HS.out.2.1.trans (Pm.swp (f := f') (i := k) (l := l) hk (by omega) (by omega))
            have REL := hide (And.intro SW (And.intro hSI (And.intro hPM (FR o o2 (f' l) (f' k)))))
            have HPO := hide (And.intro hp (And.intro hoo (And.intro hp2 (And.intro hoo2 hl))))
            have HT1 := hide hT1
            have hor : p < p2 ∨ (p = p2 ∧ o + 5 ≤ o2) := by omega
            have hln : l < n := by omega
            have hlk : k < l := by omega
            have hlb : l < nc * 1024 := by omega
            have hkb : k < nc * 1024 := by omega
            have hl' : 2 * (k : Int) + 2 = (l : Int) := by omega
            obtain ⟨c0, c1, c2, c3, c4⟩ := hWk
            obtain ⟨d0, d1, d2, d3, d4⟩ := hWl
            clear hT1 SW FR hSI hPM hl hS1 hS2 HF HS i0f i1f hc' hcn' hcn1 hp hoo hp2 hoo2 HW hb1 hb2 HF1 hcn2 hc1
            refine (at_at hb ho T K nc k p o _ rfl HPO.out.1 HPO.out.2.1 _ hnc hkb hcX HT1.out).mono ?_
            rintro e w3 ⟨rfl, rfl⟩
            go_wp2_with fail
            refine (at_at hb ho T K nc l p2 o2 _ (by have := HPO.out.2.2.2.2; omega) HPO.out.2.2.1 HPO.out.2.2.2.1 _ hnc hlb hcX HT1.out).mono ?_
            rintro e w3 ⟨rfl, rfl⟩
            clear hcX HT1
            have zz1 := z1 o; have zz2 := z1 (o + 1); have zz3 := z1 (o + 2); have zz4 := z1 (o + 3); have zz5 := z1 (o + 4)
            have yy1 := z2 o2; have yy2 := z2 (o2 + 1); have yy3 := z2 (o2 + 2); have yy4 := z2 (o2 + 3); have yy5 := z2 (o2 + 4)
            clear z1 z2
            rcases hor with hne | ⟨rfl, hoo⟩
            all_goals
              go_wp2
              go_region
              all_goals go_wp2
              all_goals go_roundw
              all_goals (first | exact ⟨l, swp f' k l, hln, rfl, REL.out.1.drew, REL.out.2.1, REL.out.2.2.1, REL.out.2.2.2.drew⟩ | (simp [intOf]; omega))
          | false =>
            go_wp2
            refine wp_loop_rounds 3 ?_; rw [rounds_succ]
            go_wp2_with (go_at_call 28; refine (hless_at hb ho T K nc (2 * k + 1) k _ _ (by omega) (by omega) f' _ hnc (by omega) (by omega) hc' HF.out).mono ?_; rintro e w1 ⟨rfl, hw1⟩)
            have hcn1 := cell_later hw1 hcn'
            have hc1 := cell_later hw1 hc'
            have HF1 := hide (HF.out.below hw1)
            rw [rounds_succ]
            go_wp2_with (go_at_call 28; refine (hless_at hb ho T K nc (2 * k + 2) (k) _ _ (by omega) (by omega) f' _ hnc (by omega) (by omega) hc1 HF1.out).mono ?_; rintro e w2 ⟨rfl, hw2⟩)
            have hcn2 := cell_later hw2 hcn1
            rw [rounds_succ]
            go_wp2
            obtain ⟨hsi, hpm, hfr⟩ := HS.out
            exact bodyPost_ret (v := .tuple #[]) (by simp [results, Yba.results24, go_sem]) rfl ⟨rfl, ⟨f', HF1.out.below hw2, hsi.leaf1 hb1 (fun _ => hb2), hpm⟩, (hfr.trans (Fr.of_below hw1)).trans (Fr.of_below hw2)⟩
      · cases hb1 : ltW (f' (2 * k + 1)) (f' k) with
        | true =>
          go_wp2
          refine wp_loop_rounds 3 ?_; rw [rounds_succ]
          go_wp2_with (go_at_call 28; refine (hless_at hb ho T K nc (2 * k + 1) k _ _ (by omega) (by omega) f' _ hnc (by omega) (by omega) hc' HF.out).mono ?_; rintro e w1 ⟨rfl, hw1⟩)
          have hcn1 := cell_later hw1 hcn'
          rw [rounds_succ]
          go_wp2
          rw [rounds_succ]
          go_wp2_with fail
          obtain ⟨l, hl⟩ : ∃ l, l = 2 * k + 1 := ⟨_, rfl⟩
          obtain ⟨p, hp⟩ : ∃ p, p = K + k / 1024 := ⟨_, rfl⟩
          obtain ⟨o, hoo⟩ : ∃ o, o = k % 1024 * 5 := ⟨_, rfl⟩
          obtain ⟨p2, hp2⟩ : ∃ p2, p2 = K + l / 1024 := ⟨_, rfl⟩
          obtain ⟨o2, hoo2⟩ : ∃ o2, o2 = l % 1024 * 5 := ⟨_, rfl⟩
          have HW := HF.out.below hw1
          have hcX := cell_later hw1 hc'
          have hT1 := HW.tab
          have hWk := HW.at_ k (by omega)
          have hWl := HW.at_ l (by omega)
          have z1 : ∀ j, w1.frozen? ⟨p, j, none⟩ = false := fun j => by rw [hp]; exact HW.thaw (k / 1024) j (by omega)
          have z2 : ∀ j, w1.frozen? ⟨p2, j, none⟩ = false := fun j => by rw [hp2]; exact HW.thaw (l / 1024) j (by omega)
          have SW := HW.swap hT (i := k) (l := l) (by omega) (by omega) (by omega)
          have hS1 : K ≤ p ∧ p < K + nc := by omega
          have hS2 : K ≤ p2 ∧ p2 < K + nc := by omega
          have FR : ∀ (o o2 : Nat) (t u : Wt), Fr (fun k => K ≤ k ∧ k < K + nc) w (putWt (putWt w1 p o t) p2 o2 u) := fun o o2 t u => (Fr.put (Fr.put (HS.out.2.2.trans (Fr.of_below hw1)) (Or.inl hS1)) (Or.inl hS2))
          rw [← hp, ← hoo, ← hp2, ← hoo2] at SW
          rw [← hp, ← hoo] at hWk
          rw [← hp2, ← hoo2] at hWl
          have hSI : SI ltW n (swp f' k l) i0 l := by rw [hl]; exact HS.out.1.to1 h1 hb1 (fun h => absurd h h2)
          have hPM := HS.out.2.1.trans (Pm.swp (f := f') (i := k) (l := l) hk (by omega) (by omega))
          have REL := hide (And.intro SW (And.intro hSI (And.intro hPM (FR o o2 (f' l) (f' k)))))
          have HPO := hide (And.intro hp (And.intro hoo (And.intro hp2 (And.intro hoo2 hl))))
          have HT1 := hide hT1
          have hor : p < p2 ∨ (p = p2 ∧ o + 5 ≤ o2) := by omega
          have hln : l < n := by omega
          have hlk : k < l := by omega
          have hlb : l < nc * 1024 := by omega
          have hkb : k < nc * 1024 := by omega
          have hl' : 2 * (k : Int) + 1 = (l : Int) := by omega
          obtain ⟨c0, c1, c2, c3, c4⟩ := hWk
          obtain ⟨d0, d1, d2, d3, d4⟩ := hWl
          clear hT1 SW FR hSI hPM hl hS1 hS2 HF HS i0f i1f hc' hcn' hcn1 hp hoo hp2 hoo2 HW hb1
          refine (at_at hb ho T K nc k p o _ rfl HPO.out.1 HPO.out.2.1 _ hnc hkb hcX HT1.out).mono ?_
          rintro e w3 ⟨rfl, rfl⟩
          go_wp2_with fail
          refine (at_at hb ho T K nc l p2 o2 _ (by have := HPO.out.2.2.2.2; omega) HPO.out.2.2.1 HPO.out.2.2.2.1 _ hnc hlb hcX HT1.out).mono ?_
          rintro e w3 ⟨rfl, rfl⟩
          clear hcX HT1
          have zz1 := z1 o; have zz2 := z1 (o + 1); have zz3 := z1 (o + 2); have zz4 := z1 (o + 3); have zz5 := z1 (o + 4)
          have yy1 := z2 o2; have yy2 := z2 (o2 + 1); have yy3 := z2 (o2 + 2); have yy4 := z2 (o2 + 3); have yy5 := z2 (o2 + 4)
          clear z1 z2
          rcases hor with hne | ⟨rfl, hoo⟩
          all_goals
            go_wp2
            go_region
            all_goals go_wp2
            all_goals go_roundw
            all_goals (first | exact ⟨l, swp f' k l, hln, rfl, REL.out.1.drew, REL.out.2.1, REL.out.2.2.1, REL.out.2.2.2.drew⟩ | (simp [intOf]; omega))
        | false =>
          go_wp2
          refine wp_loop_rounds 3 ?_; rw [rounds_succ]
          go_wp2_with (go_at_call 28; refine (hless_at hb ho T K nc (2 * k + 1) k _ _ (by omega) (by omega) f' _ hnc (by omega) (by omega) hc' HF.out).mono ?_; rintro e w1 ⟨rfl, hw1⟩)
          have hcn1 := cell_later hw1 hcn'
          rw [rounds_succ]
          go_wp2
          rw [rounds_succ]
          go_wp2
          obtain ⟨hsi, hpm, hfr⟩ := HS.out
          exact bodyPost_ret (v := .tuple #[]) (by simp [results, Yba.results24, go_sem]) rfl ⟨rfl, ⟨f', HF.out.below hw1, hsi.leaf1 hb1 (fun h => absurd h h2), hpm⟩, hfr.trans (Fr.of_below hw1)⟩
    · go_wp2
      refine wp_loop_rounds 3 ?_; rw [rounds_succ]
      go_wp2
      rw [rounds_succ]
      go_wp2
      rw [rounds_succ]
      go_wp2
      obtain ⟨hsi, hpm, hfr⟩ := HS.out
      exact bodyPost_ret (v := .tuple #[]) (by simp [results, Yba.results24, go_sem]) rfl ⟨rfl, ⟨f', HF.out, hsi.done (fun c a1 a2 a3 => by omega), hpm⟩, hfr⟩
end Go.Proofs.Ybulkcgeg
