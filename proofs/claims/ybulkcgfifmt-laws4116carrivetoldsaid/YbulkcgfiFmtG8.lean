import Derived.Test.YbulkcgfiFmtG7b
namespace Go.Proofs.YbulkcgfiFmt
open Go.RowKit Go.Extern.Stop Go.Stop Go.Extern
set_option linter.unusedVariables false
set_option linter.unusedSimpArgs false
theorem below_setCells {B : Nat} {a : World} (g : Nat) (hg : B ≤ g) : ∀ (vs : List Value) (o : Nat) (w : World), Below B a w → Below B a (w.setCells g o vs)
  | [], _, _, h => h
  | v :: r, o, w, h => by rw [World.setCells]; exact below_setCells g hg r (o + 1) _ (h.setCell (by exact hg) v)
/-- The end of zzs4116cbound: the prefix stored, the whole loaded and stored. -/
theorem B2.finish {w W : World} {s p : Nat} {ts : Int} (h : B2 w W s p ts) (f : Nat → Nat) (m : Nat) (hm : m ≤ 32) :
    (loadVar 28 ⟨p, 0, none⟩).run Ybaf.prog ((W.setCells p 1 (eB f 0 m)).setCell ⟨p, 33, none⟩ (.int .i64 m)) = .ok (.agg (bnd ts f m)) ((W.setCells p 1 (eB f 0 m)).setCell ⟨p, 33, none⟩ (.int .i64 m)) ∧
    (storeVar 28 ⟨s, 0, none⟩ (.agg (bnd ts f m))).run Ybaf.prog ((W.setCells p 1 (eB f 0 m)).setCell ⟨p, 33, none⟩ (.int .i64 m)) = .ok () (((W.setCells p 1 (eB f 0 m)).setCell ⟨p, 33, none⟩ (.int .i64 m)).setCells s 0 (bnd ts f m).toList) ∧
    (loadVar 28 ⟨s, 0, none⟩).run Ybaf.prog (((W.setCells p 1 (eB f 0 m)).setCell ⟨p, 33, none⟩ (.int .i64 m)).setCells s 0 (bnd ts f m).toList) = .ok (.agg (bnd ts f m)) (((W.setCells p 1 (eB f 0 m)).setCell ⟨p, 33, none⟩ (.int .i64 m)).setCells s 0 (bnd ts f m).toList) ∧
    Below w.heap.size w (((W.setCells p 1 (eB f 0 m)).setCell ⟨p, 33, none⟩ (.int .i64 m)).setCells s 0 (bnd ts f m).toList) := by
  obtain ⟨U, hU⟩ : ∃ U, U = (W.setCells p 1 (eB f 0 m)).setCell ⟨p, 33, none⟩ (.int .i64 m) := ⟨_, rfl⟩
  rw [← hU]
  have up : ∀ j v, (bnd ts f m)[j]? = some v → U.cell? ⟨p, 0 + j, none⟩ = some v := fun j v hv => by
    obtain ⟨hj, rfl⟩ := bnd_get hv
    rw [Nat.zero_add, hU]
    have h33 : (W.setCells p 1 (eB f 0 m)).cell? ⟨p, 33, none⟩ = some (.int .i64 0) := by rw [World.cell?_setCells_out _ _ _ _ _ (fun _ _ => by rw [eB_len]; simp only; omega)]; exact h.pn
    by_cases e33 : j = 33
    · subst e33
      rw [World.cell?_setCell_same _ _ _ h33]; rfl
    · rw [World.cell?_setCell_other _ _ _ _ (by intro e; injection e with _ e2 _; exact e33 e2.symm)]
      by_cases e0 : j = 0
      · subst e0
        rw [World.cell?_setCells_out _ _ _ _ _ (fun _ _ => Or.inl (by simp))]; exact h.p0
      · rw [if_neg e0, if_neg e33]
        by_cases hjm : j - 1 < m
        · have := World.cell?_setCells_in p (eB f 0 m) 1 W (fun i hi => by rw [eB_len] at hi; rw [h.pk i (by omega)]; rfl) (j - 1) (by rw [eB_len]; exact hjm)
          rw [show 1 + (j - 1) = j by omega] at this
          rw [this, if_pos hjm]
          simp [eB]
        · rw [World.cell?_setCells_out _ _ _ _ _ (fun _ _ => by rw [eB_len]; simp only; omega), if_neg hjm]
          have := h.pk (j - 1) (by omega)
          rwa [show 1 + (j - 1) = j by omega] at this
  have us : ∀ j, j < 34 → (U.cell? ⟨s, j, none⟩).isSome = true := fun j hj => by
    rw [hU, World.cell?_setCell_other _ _ _ _ (by intro e; injection e with e1 _ _; exact h.ne e1.symm), World.cell?_setCells_out _ _ _ _ _ (fun e => absurd e (by exact h.ne))]
    exact h.sc j hj
  have uf : ∀ j, U.frozen? ⟨s, j, none⟩ = false := fun j => by rw [hU, World.frozen?_setCell, World.frozen?_setCells]; exact h.sf j
  refine ⟨load_agg U 28 p 0 _ _ Ybaf.underlying28 rfl (by rw [bnd_size]; exact Ybaf.size28) up, store_agg U 28 s 0 _ (by rw [bnd_size]; exact Ybaf.size28) (fun j hj => by rw [bnd_size] at hj; rw [Nat.zero_add]; exact us j hj) (fun j _ => uf _) (bnd_one _ _ _), load_agg _ 28 s 0 _ _ Ybaf.underlying28 rfl (by rw [bnd_size]; exact Ybaf.size28) (fun j v hv => ?_), ?_⟩
  · have hj := (bnd_get hv).1
    have := World.cell?_setCells_in s (bnd ts f m).toList 0 U (fun i hi => by rw [Array.length_toList, bnd_size] at hi; rw [Nat.zero_add]; exact us i hi) j (by rw [Array.length_toList, bnd_size]; exact hj)
    rw [this, ← hv]
    rw [Array.getElem?_eq_getElem (by rw [bnd_size]; exact hj)]
    simp
  · rw [hU]
    exact below_setCells s h.ge.1 _ _ _ ((below_setCells p h.ge.2 _ _ _ h.bel).setCell (by exact h.ge.2) _)
theorem B2.drew {w W : World} {s p : Nat} {ts : Int} (h : B2 w W s p ts) : B2 w W.drew s p ts := ⟨h.p0, h.pk, h.pn, h.pf, h.sc, h.sf, h.ne, h.ge, h.bel.drew⟩
theorem copy_key (W : World) (p kb ko m kc : Nat) (f : Nat → Nat) (hm : m ≤ 32) (hp : ∀ i, i < 32 → (W.cell? ⟨p, 1 + i, none⟩).isSome = true) (hf : ∀ j, W.frozen? ⟨p, j, none⟩ = false) (hk : ∀ i, i < m → W.cell? ⟨kb, ko + i, none⟩ = some (.int .u8 (f i))) :
    (Builtin.copy_ #[23, 23] 3 #[.slice (some ⟨p, 1, none⟩) 32 32, .slice (some ⟨kb, ko, none⟩) m kc]).run Ybaf.prog W = .ok (.int .i64 m) (W.setCells p 1 (eB f 0 m)) := by
  have := run_copy_cells (P := Ybaf.prog) W 23 23 3 5 p 1 32 32 ⟨kb, ko, none⟩ m kc (eB f 0 m) Ybaf.underlying23 Ybaf.size5 (by rw [eB_len]; exact (Nat.min_eq_left hm).symm) (fun j v hj => ?_) (fun j hj => ?_) (fun j hj => hf _) (fun v hv => ?_)
  · rw [eB_len] at this; exact this
  · obtain ⟨h1, rfl⟩ := eB_get hj
    rw [add_plain, Nat.zero_add]; exact hk j h1
  · rw [eB_len] at hj
    exact hp j (by omega)
  · unfold eB at hv
    obtain ⟨i, _, rfl⟩ := List.mem_map.1 hv
    rfl
set_option maxRecDepth 100000 in
set_option maxHeartbeats 400000 in
theorem bound_some (ts : Int) (kb ko len cap : Nat) (f : Nat → Nat) (w : World) (hl : 0 < len) (hlc : len ≤ cap) (hl2 : len ≤ 100000) (hk : ∀ i, i < len → w.cell? ⟨kb, ko + i, none⟩ = some (.int .u8 (f i))) :
    Calls Ybaf.prog 9 #[.int .u64 ts, .slice (some ⟨kb, ko, none⟩) len cap] w fun e w' => e = .returned (.agg (bnd ts f (min len 32))) ∧ Below w.heap.size w w' := by
  obtain ⟨m, hm⟩ : ∃ m, m = min len 32 := ⟨_, rfl⟩
  rw [← hm]
  have HB := hide (B2.start w ts).drew
  have hkb : kb < w.heap.size := World.block_lt_of_cell? _ _ (hk 0 hl)
  have hcopy := copy_key ((w.alloc (.cells (z34 0) 28)).alloc (.cells (z34 ts) 28)).drew (w.heap.size + 1) kb ko m cap f (by omega) (fun i hi => by rw [HB.out.pk i hi]; rfl) HB.out.pf (fun i hi => by rw [HB.out.bel.cell (by exact hkb)]; exact hk i (by omega))
  obtain ⟨hf1, hf2, hf3, hf4⟩ := HB.out.finish f m (by omega)
  have hpn : (((w.alloc (.cells (z34 0) 28)).alloc (.cells (z34 ts) 28)).drew.setCells (w.heap.size + 1) 1 (eB f 0 m)).cell? ⟨w.heap.size + 1, 33, none⟩ = some (.int .i64 0) := by rw [World.cell?_setCells_out _ _ _ _ _ (fun _ _ => by rw [eB_len]; simp only; omega)]; exact HB.out.pn
  have hpf : (((w.alloc (.cells (z34 0) 28)).alloc (.cells (z34 ts) 28)).drew.setCells (w.heap.size + 1) 1 (eB f 0 m)).frozen? ⟨w.heap.size + 1, 33, none⟩ = false := by rw [World.frozen?_setCells]; exact HB.out.pf 33
  have HF4 := hide hf4
  clear hf4 HB hk
  obtain ⟨W0, hW0⟩ : ∃ W0, W0 = (w.alloc (.cells (z34 0) 28)).alloc (.cells (z34 ts) 28) := ⟨_, rfl⟩
  obtain ⟨L, hL⟩ : ∃ L, L = eB f 0 m := ⟨_, rfl⟩
  obtain ⟨C, hC⟩ : ∃ C, C = bnd ts f m := ⟨_, rfl⟩
  rw [← hW0, ← hL] at hcopy hf1 hf2 hf3 hpn hpf HF4
  rw [← hC] at hf1 hf2 hf3 HF4 ⊢
  obtain ⟨W3, hW3⟩ : ∃ W3, W3 = W0.drew.setCells (w.heap.size + 1) 1 L := ⟨_, rfl⟩
  rw [← hW3] at hcopy hf1 hf2 hf3 hpn hpf HF4
  unfold z34 at hW0
  have HW0 := hide hW0
  clear hW0 hL hC hW3
  by_cases h32 : 32 < len
  · have hmi : (m : Int) = 32 := by omega
    obtain rfl : m = 32 := by omega
    have e32 : ((32 : Nat) : Int) = 32 := rfl
    rw [e32] at hcopy hf1 hf2 hf3 HF4
    have HH := hide (And.intro hcopy (And.intro hf1 (And.intro hf2 (And.intro hf3 (And.intro hpn hpf)))))
    clear hcopy hf1 hf2 hf3 hpn hpf hm hmi e32
    go_enter Ybaf.func9, Ybaf.ntmps9
    go_upto_region 6 with fail
    rw [← HW0.out]
    clear HW0
    obtain ⟨hcopy, hf1, hf2, hf3, hpn, hpf⟩ := HH.out
    clear HH
    have HH2 := hide (And.intro hf1 (And.intro hf2 hf3))
    clear hf1 hf2 hf3
    go_wp2_with fail
    go_region
    clear hcopy
    obtain ⟨hf1, hf2, hf3⟩ := HH2.out
    go_wp2_with (first | (refine wpList_load_run rfl 28 (.tmp 5) rfl ⟨w.heap.size + 1, 0, none⟩ rfl _ hf1 ?_) | (refine wpList_store_run rfl 28 (.tmp 4) (.tmp 21) rfl ⟨w.heap.size, 0, none⟩ rfl _ rfl hf2 ?_))
    exact bodyPost_ret (v := .agg C) (results_cell_run (p := 4) (ty := 28) rfl _ _ ⟨w.heap.size, 0, none⟩ _ rfl hf3) rfl ⟨rfl, HF4.out⟩
  · obtain rfl : m = len := by omega
    have HH := hide (And.intro hcopy (And.intro hf1 (And.intro hf2 (And.intro hf3 (And.intro hpn hpf)))))
    clear hcopy hf1 hf2 hf3 hpn hpf hm
    have h32' : ¬ (32 : Int) < m := by omega
    go_enter Ybaf.func9, Ybaf.ntmps9
    go_upto_region 6 with fail
    rw [← HW0.out]
    clear HW0
    obtain ⟨hcopy, hf1, hf2, hf3, hpn, hpf⟩ := HH.out
    clear HH
    have HH2 := hide (And.intro hf1 (And.intro hf2 hf3))
    clear hf1 hf2 hf3
    go_wp2_with fail
    go_region
    clear hcopy
    obtain ⟨hf1, hf2, hf3⟩ := HH2.out
    go_wp2_with (first | (refine wpList_load_run rfl 28 (.tmp 5) rfl ⟨w.heap.size + 1, 0, none⟩ rfl _ hf1 ?_) | (refine wpList_store_run rfl 28 (.tmp 4) (.tmp 21) rfl ⟨w.heap.size, 0, none⟩ rfl _ rfl hf2 ?_))
    exact bodyPost_ret (v := .agg C) (results_cell_run (p := 4) (ty := 28) rfl _ _ ⟨w.heap.size, 0, none⟩ _ rfl hf3) rfl ⟨rfl, HF4.out⟩
set_option maxRecDepth 100000 in
set_option maxHeartbeats 400000 in
theorem bound_zero (ts : Int) (a : Option Addr) (cap : Nat) (f : Nat → Nat) (w : World) (ha : a = none → cap = 0) :
    Calls Ybaf.prog 9 #[.int .u64 ts, .slice a 0 cap] w fun e w' => e = .returned (.agg (bnd ts f 0)) ∧ Below w.heap.size w w' := by
  have HB := hide (B2.start w ts).drew
  have hcopy : ∀ (d : Option Addr) (c : Nat), (Builtin.copy_ #[23, 23] 3 #[.slice (some ⟨w.heap.size + 1, 1, none⟩) 32 32, .slice d 0 c]).run Ybaf.prog ((w.alloc (.cells (z34 0) 28)).alloc (.cells (z34 ts) 28)).drew = .ok (.int .i64 0) ((w.alloc (.cells (z34 0) 28)).alloc (.cells (z34 ts) 28)).drew := fun d c => run_copy_none _ 23 23 3 5 _ d 32 32 0 c Ybaf.underlying23 Ybaf.size5 rfl
  obtain ⟨hf1, hf2, hf3, hf4⟩ := HB.out.finish f 0 (by omega)
  have hpn := HB.out.pn
  have hpf := HB.out.pf 33
  have HF4 := hide hf4
  clear hf4 HB
  simp only [eB, List.range_zero, List.map_nil, World.setCells] at hf1 hf2 hf3 HF4
  obtain ⟨W0, hW0⟩ : ∃ W0, W0 = (w.alloc (.cells (z34 0) 28)).alloc (.cells (z34 ts) 28) := ⟨_, rfl⟩
  obtain ⟨C, hC⟩ : ∃ C, C = bnd ts f 0 := ⟨_, rfl⟩
  rw [← hW0] at hf1 hf2 hf3 hpn hpf HF4
  simp only [← hW0] at hcopy
  rw [← hC] at hf1 hf2 hf3 HF4 ⊢
  have e0 : ((0 : Nat) : Int) = 0 := rfl
  rw [e0] at hf1 hf2 hf3 HF4
  unfold z34 at hW0
  have HW0 := hide hW0
  clear hW0 hC
  have HH := hide (And.intro hcopy (And.intro hf1 (And.intro hf2 (And.intro hf3 (And.intro hpn hpf)))))
  clear hcopy hf1 hf2 hf3 hpn hpf e0
  have e1 : ((0 : Nat) : Int) = 0 := rfl
  cases a with
  | none =>
    obtain rfl := ha rfl
    go_enter Ybaf.func9, Ybaf.ntmps9
    go_upto_region 6 with fail
    rw [← HW0.out]
    clear HW0
    obtain ⟨hcopy', hf1, hf2, hf3, hpn, hpf⟩ := HH.out
    have hcopy := hcopy' none 0
    clear HH hcopy'
    have HH2 := hide (And.intro hf1 (And.intro hf2 hf3))
    clear hf1 hf2 hf3
    go_wp2_with fail
    go_region
    clear hcopy
    obtain ⟨hf1, hf2, hf3⟩ := HH2.out
    go_wp2_with (first | (refine wpList_load_run rfl 28 (.tmp 5) rfl ⟨w.heap.size + 1, 0, none⟩ rfl _ hf1 ?_) | (refine wpList_store_run rfl 28 (.tmp 4) (.tmp 21) rfl ⟨w.heap.size, 0, none⟩ rfl _ rfl hf2 ?_))
    exact bodyPost_ret (v := .agg C) (results_cell_run (p := 4) (ty := 28) rfl _ _ ⟨w.heap.size, 0, none⟩ _ rfl hf3) rfl ⟨rfl, HF4.out⟩
  | some x =>
    clear ha
    by_cases hc0 : cap = 0
    · subst hc0
      go_enter Ybaf.func9, Ybaf.ntmps9
      go_upto_region 6 with fail
      rw [← HW0.out]
      clear HW0
      obtain ⟨hcopy', hf1, hf2, hf3, hpn, hpf⟩ := HH.out
      have hcopy := hcopy' (some x) 0
      clear HH hcopy'
      have HH2 := hide (And.intro hf1 (And.intro hf2 hf3))
      clear hf1 hf2 hf3
      go_wp2_with fail
      go_region
      clear hcopy
      obtain ⟨hf1, hf2, hf3⟩ := HH2.out
      go_wp2_with (first | (refine wpList_load_run rfl 28 (.tmp 5) rfl ⟨w.heap.size + 1, 0, none⟩ rfl _ hf1 ?_) | (refine wpList_store_run rfl 28 (.tmp 4) (.tmp 21) rfl ⟨w.heap.size, 0, none⟩ rfl _ rfl hf2 ?_))
      exact bodyPost_ret (v := .agg C) (results_cell_run (p := 4) (ty := 28) rfl _ _ ⟨w.heap.size, 0, none⟩ _ rfl hf3) rfl ⟨rfl, HF4.out⟩
    · go_enter Ybaf.func9, Ybaf.ntmps9
      go_upto_region 6 with fail
      rw [← HW0.out]
      clear HW0
      obtain ⟨hcopy', hf1, hf2, hf3, hpn, hpf⟩ := HH.out
      have hcopy := hcopy' (some x) cap
      clear HH hcopy'
      have HH2 := hide (And.intro hf1 (And.intro hf2 hf3))
      clear hf1 hf2 hf3
      go_wp2_with fail
      go_region
      clear hcopy
      obtain ⟨hf1, hf2, hf3⟩ := HH2.out
      go_wp2_with (first | (refine wpList_load_run rfl 28 (.tmp 5) rfl ⟨w.heap.size + 1, 0, none⟩ rfl _ hf1 ?_) | (refine wpList_store_run rfl 28 (.tmp 4) (.tmp 21) rfl ⟨w.heap.size, 0, none⟩ rfl _ rfl hf2 ?_))
      exact bodyPost_ret (v := .agg C) (results_cell_run (p := 4) (ty := 28) rfl _ _ ⟨w.heap.size, 0, none⟩ _ rfl hf3) rfl ⟨rfl, HF4.out⟩
/-- A byte slice: f are its bytes. -/
structure BS (w : World) (v : Value) (len : Nat) (f : Nat → Nat) : Prop where
  val : ∃ a cap, v = .slice a len cap ∧ len ≤ cap ∧ (a = none → cap = 0) ∧ ∀ i, i < len → ∃ b o, a = some ⟨b, o, none⟩ ∧ w.cell? ⟨b, o + i, none⟩ = some (.int .u8 (f i))
theorem bound_any (ts : Int) (v : Value) (len : Nat) (f : Nat → Nat) (w : World) (hl2 : len ≤ 100000) (hk : BS w v len f) :
    Calls Ybaf.prog 9 #[.int .u64 ts, v] w fun e w' => e = .returned (.agg (bnd ts f (min len 32))) ∧ Below w.heap.size w w' := by
  obtain ⟨a, cap, rfl, h1, h2, h3⟩ := hk.val
  by_cases h0 : len = 0
  · subst h0
    exact bound_zero ts a cap f w h2
  · obtain ⟨b, o, rfl, _⟩ := h3 0 (by omega)
    refine bound_some ts b o len cap f w (by omega) h1 hl2 (fun i hi => ?_)
    obtain ⟨b', o', e, h⟩ := h3 i hi
    injection e with e
    injection e with e1 e2
    subst e1; subst e2
    exact h
end Go.Proofs.YbulkcgfiFmt
