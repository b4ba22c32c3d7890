import Derived.Test.YbulkcgfiFmtG12
namespace Go.Proofs.YbulkcgfiFmt
open Go.RowKit Go.Extern.Stop Go.Stop Go.Extern
set_option linter.unusedVariables false
set_option linter.unusedSimpArgs false
def mvOf (sel : Nat) : Nat := if sel % 4 = 3 then 3 + sel / 4 else sel % 4
def fp16 (fpl : Nat) (ff : Nat → Nat) (i : Nat) : Nat := if i < 16 ∧ i < fpl then ff i else 0
/-- The bytes of the range. -/
def head (t m : Nat) (kf : Nat → Nat) (mv : Nat) : List Nat := venc t (vlen t) ++ venc m (vlen m) ++ (List.range m).map kf ++ venc mv (vlen mv)
def tail (mv : Nat) (fp : Nat → Nat) (cnt : Nat) (idf : Nat → Nat) : List Nat := if mv = 1 then (List.range 16).map fp else if mv = 2 then venc cnt (vlen cnt) ++ (List.range (32 * cnt)).map idf else []
def vals (l : List Nat) : List Value := l.map fun b => .int .u8 ((b : Nat) : Int)
def tsBad (t last : Nat) : Bool := decide (0 < t ∧ 18446744073709551615 - last ≤ t - 1)
/-- The spec that goes with the range. -/
def specOf (t last m : Nat) (kf : Nat → Nat) (mv : Nat) (fp : Nat → Nat) (ids : Value) (cnt : Nat) (idf : Nat → Nat) : Sp :=
  { ts := if tsBad t last then 0 else tsv t last, f := kf, m := m, err := tsBad t last, mv := mv, fp := if mv = 1 then fp else fun _ => 0, ids := ids, tEnd := vlen t, bEnd := vlen t + vlen m + m, mEnd := vlen t + vlen m + m + vlen mv, en := (head t m kf mv ++ tail mv fp cnt idf).length }
def BuildPost (last t sel kl fl il : Nat) (kf ff idf : Nat → Nat) (w : World) (e : Ending) (w' : World) : Prop :=
  ∃ B v ids, e = .returned (.tuple #[v, .agg (specOf t last (min kl 32) kf (mvOf sel) (fp16 fl ff) ids (il / 32) idf).arr]) ∧ w.heap.size ≤ B ∧ w'.ownsRow B 5 1 v (head t (min kl 32) kf (mvOf sel) ++ tail (mvOf sel) (fp16 fl ff) (il / 32) idf).length (vals (head t (min kl 32) kf (mvOf sel) ++ tail (mvOf sel) (fp16 fl ff) (il / 32) idf)) ∧ Below w.heap.size w w' ∧ ids.oneCell' = true
theorem Sp.c_one (S : Sp) (h : S.ids.oneCell' = true) (j : Nat) : (S.c j).oneCell' = true := by
  unfold Sp.c
  split
  · rfl
  split
  · rfl
  split
  · rfl
  split
  · rfl
  split
  · rfl
  split
  · rfl
  split
  · exact h
  split
  · rfl
  split
  · rfl
  split
  · rfl
  · rfl
theorem Sp.one (S : Sp) (h : S.ids.oneCell' = true) : ∀ v ∈ S.arr.toList, v.oneCell' = true := fun v hv => by
  unfold Sp.arr at hv
  rw [Array.toList_ofFn] at hv
  obtain ⟨i, hi⟩ := List.mem_ofFn.1 hv
  rw [← hi]
  exact S.c_one h _
theorem results_two {fn : Func} {s p : Tmp} {ty : TypeId} (h : fn.results = #[.tmp s, .cell p ty]) (tmps : Array Value) (w : World) (v1 : Value) (h1 : tmps.getD s undef = v1) (ad : Addr) (v : Value) (hp : tmps.getD p undef = .pointer (some ad)) (hrun : (loadVar ty ad).run Ybaf.prog w = .ok v w) :
    (results fn tmps).run Ybaf.prog w = .ok (.tuple #[v1, v]) w := by
  have hp' : tmps[p]?.getD undef = .pointer (some ad) := by simpa using hp
  have h1' : tmps[s]?.getD undef = v1 := by simpa using h1
  simp [results, h, hp', h1', asAddr, hrun]
/-- The worlds of the build: block w.heap.size is the result's, the next one the spec's. -/
structure BW (w W : World) (S : Sp) : Prop where
  sp : SpAt W (w.heap.size + 1) S
  rc : ∀ j, j < 57 → (W.cell? ⟨w.heap.size, j, none⟩).isSome = true
  rf : ∀ j, W.frozen? ⟨w.heap.size, j, none⟩ = false
  bel : Below w.heap.size w W
  size : w.heap.size + 2 ≤ W.heap.size
theorem BW.start (w : World) : BW w ((w.alloc (.cells z57 32)).alloc (.cells z57 32)) Sp.zero := by
  have e1 : ∀ j, ((w.alloc (.cells z57 32)).alloc (.cells z57 32)).cell? ⟨w.heap.size + 1, j, none⟩ = z57[j]? := fun j => World.cell?_alloc_at _ _ _ _ (by simp)
  have e2 : ∀ j, ((w.alloc (.cells z57 32)).alloc (.cells z57 32)).cell? ⟨w.heap.size, j, none⟩ = z57[j]? := fun j => by rw [World.cell?_alloc_past _ _ _ (by simp)]; exact World.cell?_alloc_at _ _ _ _ rfl
  refine ⟨⟨by simp, fun j hj => by rw [e1]; exact z57_c j hj, fun j => by simp⟩, fun j hj => by rw [e2, z57_c j hj]; rfl, fun j => ?_, ((Below.refl _ _).alloc (Nat.le_refl _) _).alloc (by simp) _, by simp⟩
  rw [World.frozen?_alloc_past _ _ _ (by simp)]; exact World.frozen?_alloc_at _ _ _ _ rfl
theorem BW.below {w W W' : World} {S : Sp} (h : BW w W S) (hb : Below (w.heap.size + 2) W W') : BW w W' S :=
  ⟨h.sp.below hb (by omega), fun j hj => by rw [hb.cell (by simp only; omega)]; exact h.rc j hj, fun j => by rw [hb.frozen (by simp only; omega)]; exact h.rf j, h.bel.trans (hb.mono (by omega)), Nat.le_trans h.size hb.size⟩
theorem BW.setW {w W : World} {S S' : Sp} (h : BW w W S) (W' : World) (hs : SpAt W' (w.heap.size + 1) S') (hc : ∀ j, W'.cell? ⟨w.heap.size, j, none⟩ = W.cell? ⟨w.heap.size, j, none⟩) (hf : ∀ j, W'.frozen? ⟨w.heap.size, j, none⟩ = W.frozen? ⟨w.heap.size, j, none⟩) (hb : Below w.heap.size W W') : BW w W' S' :=
  ⟨hs, fun j hj => by rw [hc]; exact h.rc j hj, fun j => by rw [hf]; exact h.rf j, h.bel.trans hb, Nat.le_trans h.size hb.size⟩
theorem BW.set {w W : World} {S S' : Sp} (h : BW w W S) (i : Nat) (hi : i < 57) (v : Value) (h1 : S'.c i = v) (h2 : ∀ j, j < 57 → j ≠ i → S'.c j = S.c j) : BW w (W.setCell ⟨w.heap.size + 1, i, none⟩ v) S' :=
  h.setW _ (h.sp.set i hi v h1 h2) (fun j => World.cell?_setCell_other _ _ _ _ (by intro e; injection e with e1 _ _; omega)) (fun j => World.frozen?_setCell _ _ _ _) ((Below.refl _ _).setCell (by simp only; omega) _)
theorem BW.sets {w W : World} {S : Sp} (h : BW w W S) (ts : Int) (f : Nat → Nat) (m : Nat) : BW w (W.setCells (w.heap.size + 1) 0 (bnd ts f m).toList) { S with ts := ts, f := f, m := m } :=
  h.setW _ (h.sp.sets ts f m) (fun j => World.cell?_setCells_out _ _ _ _ _ (fun e => absurd e (by simp only; omega))) (fun j => World.frozen?_setCells _ _ _ _ _) (below_setCells _ (by omega) _ _ _ (Below.refl _ _))
theorem BS.below {w W : World} {v : Value} {n : Nat} {f : Nat → Nat} (h : BS w v n f) (hb : Below w.heap.size w W) : BS W v n f := by
  obtain ⟨a, cap, h1, h2, h3, h4⟩ := h.val
  refine ⟨a, cap, h1, h2, h3, fun i hi => ?_⟩
  obtain ⟨b, o, e, hc⟩ := h4 i hi
  exact ⟨b, o, e, by rw [hb.cell (World.block_lt_of_cell? _ _ hc)]; exact hc⟩
set_option maxRecDepth 100000 in
set_option maxHeartbeats 4000000 in
theorem build_any (last t : Nat) (kv fv iv : Value) (sel kl fl il : Nat) (kf ff idf : Nat → Nat) (w : World) (ht : t < 18446744073709551616) (hlast : last < 18446744073709551616) (hsel : sel < 256) (hkl : kl ≤ 1024) (hfl : fl ≤ 1024) (hil : il ≤ 8192) (hk : BS w kv kl kf) (hf : BS w fv fl ff) (hi : BS w iv il idf) :
    Calls Ybaf.prog 5 #[.int .u64 last, .int .u64 t, kv, .int .u8 sel, fv, iv] w (BuildPost last t sel kl fl il kf ff idf w) := by
  have HK := hide hk
  have HFP := hide hf
  have HI := hide hi
  clear hk hf hi
  go_enter Ybaf.func5, Ybaf.ntmps5
  obtain ⟨m, hm⟩ : ∃ m, m = min kl 32 := ⟨_, rfl⟩
  have hm32 : m ≤ 32 := by omega
  have HM := hide hm
  go_wp2_with fail
  obtain ⟨W0, hW0⟩ : ∃ W0, W0 = (w.alloc (.cells z57 32)).alloc (.cells z57 32) := ⟨_, rfl⟩
  have HB0 : Hid (BW w W0 Sp.zero) := ⟨by rw [hW0]; exact BW.start w⟩
  unfold z57 at hW0
  rw [← hW0]
  clear hW0 hm
  refine (bound_any 0 kv kl kf W0 (by omega) (HK.out.below HB0.out.bel)).mono ?_
  rintro e w1 ⟨rfl, hb1⟩
  rw [← HM.out]
  have HB1 : Hid (BW w w1 Sp.zero) := ⟨HB0.out.below (hb1.mono HB0.out.size)⟩
  clear hb1 HB0
  obtain ⟨C, hC⟩ : ∃ C, C = bnd 0 kf m := ⟨_, rfl⟩
  have hstore : (storeVar 28 ⟨w.heap.size + 1, 0, none⟩ (.agg C)).run Ybaf.prog w1 = .ok () (w1.setCells (w.heap.size + 1) 0 C.toList) := store_agg w1 28 _ 0 C (by rw [hC, bnd_size]; exact Ybaf.size28) (fun j hj => by rw [hC, bnd_size] at hj; rw [Nat.zero_add, HB1.out.sp.cell j (by omega)]; rfl) (fun j _ => HB1.out.sp.fz _) (by rw [hC]; exact bnd_one _ _ _)
  obtain ⟨W2, hW2⟩ : ∃ W2, W2 = w1.setCells (w.heap.size + 1) 0 C.toList := ⟨_, rfl⟩
  have HB2 : Hid (BW w W2 { Sp.zero with ts := 0, f := kf, m := m }) := ⟨by rw [hW2, hC]; exact HB1.out.sets 0 kf m⟩
  rw [← hW2] at hstore
  rw [← hC]
  clear hW2 hC HB1
  go_upto_block 0 with ((with_reducible refine wpList_store_run ?_ 28 (.tmp 20) (.tmp 19) ?_ ⟨w.heap.size + 1, 0, none⟩ ?_ _ ?_ hstore ?_); exact rfl; exact rfl; exact rfl; exact rfl)
  clear hstore
  go_simp
  go_cut [] (fun wc => BW w wc { Sp.zero with ts := if tsBad t last then 0 else tsv t last, f := kf, m := m, err := tsBad t last })
  case first =>
    have c0 := HB2.out.sp.cell 0 (by omega)
    have c34 := HB2.out.sp.cell 34 (by omega)
    have f0 := HB2.out.sp.fz 0
    have f34 := HB2.out.sp.fz 34
    simp only [Sp.c, if_true, if_false] at c0
    rw [show Sp.c { Sp.zero with ts := 0, f := kf, m := m } 34 = .bool false from rfl] at c34
    by_cases t0 : t = 0
    · have t0' : ((t : Int) == 0) = true := by simp [t0]
      have HT0 := hide t0
      clear t0
      go_wp2
      go_meet
      have t0 := HT0.out
      have e1 : tsBad t last = false := by unfold tsBad; simp [t0]
      have e2 : tsv t last = 18446744073709551615 := by unfold tsv; simp [t0]
      rw [e1, e2]
      exact HB2.out.set 0 (by omega) _ rfl (fun j hj hj0 => by simp [Sp.c, hj0, Sp.zero])
    · have hw1 := wrapU ((t : Int) - 1) (by omega) (by omega)
      have hw2 := wrapU (18446744073709551615 - (last : Int)) (by omega) (by omega)
      have t0' : ¬ (t : Int) = 0 := by omega
      by_cases hts : t - 1 < 18446744073709551615 - last
      · have hw3 := wrapU ((last : Int) + t) (by omega) (by omega)
        have hw4 := wrapU ((last : Int) + t - 1) (by omega) (by omega)
        have hcmp : ¬ 18446744073709551615 - (last : Int) ≤ (t : Int) - 1 := by omega
        go_wp2
        go_meet
        have e1 : tsBad t last = false := by unfold tsBad; simp; omega
        have e2 : ((tsv t last : Nat) : Int) = (last : Int) + t - 1 := by unfold tsv; rw [if_neg t0]; omega
        rw [e1]
        exact HB2.out.set 0 (by omega) _ (by simp [Sp.c, e2]) (fun j hj hj0 => by simp [Sp.c, hj0, Sp.zero])
      · have hcmp : 18446744073709551615 - (last : Int) ≤ (t : Int) - 1 := by omega
        go_wp2
        go_meet
        have e1 : tsBad t last = true := by unfold tsBad; simp; omega
        rw [e1]
        exact HB2.out.set 34 (by omega) _ rfl (fun j hj hj0 => by simp [Sp.c, hj0, Sp.zero])
  case rest =>
    clear HB2 HK C
    obtain ⟨i0, hi, hz0, hz1, hz2⟩ := info_parts Ybaf.info5
    have hvt : 0 < vlen t := by unfold vlen; split <;> omega
    have hvt10 := vlen_le ht
    have hvm : 0 < vlen m := by unfold vlen; split <;> omega
    have hvm10 := vlen_le (n := m) (by omega)
    obtain ⟨S1, hS1⟩ : ∃ S1 : Sp, S1 = { Sp.zero with ts := if tsBad t last then 0 else tsv t last, f := kf, m := m, err := tsBad t last } := ⟨_, rfl⟩
    rw [← hS1] at hcut
    have HB := hide hcut
    clear hcut
    go_wp2_with fail
    refine (varint_any (w.heap.size + 2) (.slice none 0 0) [] t wc ht HB.out.size (by simp) (World.ownsRow_nil _ _ _ _)).mono ?_
    rintro e w3 ⟨v3, rfl, hown3, hb3⟩
    simp only [List.length_nil, Nat.zero_add, List.nil_append] at hown3
    have HB3 : Hid (BW w w3 S1) := ⟨HB.out.below hb3⟩
    clear hb3 HB
    obtain ⟨g3, cap3, rfl, hcap3, hg3⟩ := own_pos hown3 hvt
    have c53 := HB3.out.sp.cell 53 (by omega)
    have f53 := HB3.out.sp.fz 53
    rw [show S1.c 53 = .int .i64 0 by rw [hS1]; rfl] at c53
    have c33 : w3.cell? ⟨w.heap.size + 1, 33, none⟩ = some (.int .i64 m) := by rw [HB3.out.sp.cell 33 (by omega), hS1]; rfl
    have hmu := wrapU (m : Int) (by omega) (by omega)
    obtain ⟨W4, hW4⟩ : ∃ W4, W4 = w3.setCell ⟨w.heap.size + 1, 53, none⟩ (.int .i64 (vlen t)) := ⟨_, rfl⟩
    have HB4 : Hid (BW w W4 { S1 with tEnd := vlen t }) := ⟨by rw [hW4]; exact HB3.out.set 53 (by omega) _ rfl (fun j hj hj0 => by simp [Sp.c, hj0])⟩
    have hown4 : W4.ownsRow (w.heap.size + 2) 5 1 (.slice (some ⟨g3, 0, none⟩) (vlen t) cap3) (vlen t) (vals (venc t (vlen t))) := by rw [hW4]; exact ownsRow_setCell_below hown3 (by simp only; omega) _
    have HO4 := hide hown4
    have HW4 := hide hW4
    have HS1 := hide hS1
    clear hown3 hW4 hown4 HB3 hS1
    go_upto_region 10 with fail
    rw [← HW4.out]
    have c33' := HB4.out.sp.cell 33 (by omega)
    rw [show Sp.c { S1 with tEnd := vlen t } 33 = .int .i64 S1.m from rfl, show S1.m = m by rw [HS1.out]] at c33'
    clear HW4 c53 f53 c33
    go_wp2_with fail
    refine (varint_any (w.heap.size + 2) _ (vals (venc t (vlen t))) m W4 (by omega) HB4.out.size (by simp [vals, venc]; omega) (by rw [show (vals (venc t (vlen t))).length = vlen t by simp [vals, venc]]; exact HO4.out)).mono ?_
    rintro e w5 ⟨v5, rfl, hown5, hb5⟩
    have HB5 : Hid (BW w w5 { S1 with tEnd := vlen t }) := ⟨HB4.out.below hb5⟩
    clear hb5 HB4 HO4 c33'
    rw [show (vals (venc t (vlen t))).length = vlen t by simp [vals, venc], show vals (venc t (vlen t)) ++ List.map (fun b => Value.int IntKind.u8 ((b : Nat) : Int)) (venc m (vlen m)) = vals (venc t (vlen t) ++ venc m (vlen m)) by simp [vals]] at hown5
    have c33 := HB5.out.sp.cell 33 (by omega)
    rw [show Sp.c { S1 with tEnd := vlen t } 33 = .int .i64 S1.m from rfl, show S1.m = m by rw [HS1.out]] at c33
    have hkey : ∀ j u, ((List.range m).map fun i => Value.int IntKind.u8 ((kf i : Nat) : Int))[j]? = some u → w5.cell? ((⟨w.heap.size + 1, 1, none⟩ : Addr).add j) = some u := fun j u hj => by
      have hjm : j < m := by have := (List.getElem?_eq_some_iff.1 hj).1; simpa using this
      rw [add_plain, HB5.out.sp.cell (1 + j) (by omega)]
      rw [List.getElem?_map, List.getElem?_range hjm] at hj
      rw [← hj, HS1.out]
      simp [Sp.c, show ¬ 1 + j = 0 by omega, show 1 + j < 33 by omega, hjm]
    have HKEY := hide hkey
    have hml : ((List.range m).map fun i => Value.int IntKind.u8 ((kf i : Nat) : Int)).length = m * 1 := by simp
    have hm1 : ∀ u ∈ ((List.range m).map fun i => Value.int IntKind.u8 ((kf i : Nat) : Int)), u.oneCell' = true := fun u hu => by obtain ⟨i, _, rfl⟩ := List.mem_map.1 hu; rfl
    have HO5 := hide (And.intro hown5 (And.intro hml hm1))
    clear hown5 hkey hml hm1
    have hmi : (m : Int) ≤ 32 := by omega
    go_wp2_with (first
      | (at_builtin; refine wpList_append_own _ rfl _ _ 23 rfl (w.heap.size + 2) 5 i0 (.int .u8 0) 1 1 Ybaf.underlying23 hi hz0 hz1 hz2 rfl (by decide) _ _ _ rfl HO5.out.1 ⟨w.heap.size + 1, 1, none⟩ m 32 ((List.range m).map fun i => Value.int IntKind.u8 ((kf i : Nat) : Int)) rfl HO5.out.2.1 HKEY.out HO5.out.2.2 (by unfold maxLen; omega) (by omega) HB5.out.size ?_))
    intro v6 w6 hown6 hgrow6 _
    have hb6 : Below (w.heap.size + 2) w5 w6 := own_grown_below HO5.out.1 hgrow6 (Below.refl _ _) HB5.out.size
    have HB6 : Hid (BW w w6 { S1 with tEnd := vlen t }) := ⟨HB5.out.below hb6⟩
    clear hb6 hgrow6 HO5 HB5 HKEY
    obtain ⟨n6, hn6⟩ : ∃ n6, n6 = vlen t + vlen m + m := ⟨_, rfl⟩
    rw [← hn6, show vals (venc t (vlen t) ++ venc m (vlen m)) ++ ((List.range m).map fun i => Value.int IntKind.u8 ((kf i : Nat) : Int)) = vals (venc t (vlen t) ++ venc m (vlen m) ++ (List.range m).map kf) by simp [vals]] at hown6
    obtain ⟨g6, cap6, rfl, hcap6, hg6⟩ := own_pos hown6 (by omega)
    have c54 := HB6.out.sp.cell 54 (by omega)
    have f54 := HB6.out.sp.fz 54
    rw [show Sp.c { S1 with tEnd := vlen t } 54 = .int .i64 S1.bEnd from rfl, show S1.bEnd = 0 by rw [HS1.out]; rfl] at c54
    have c35 := HB6.out.sp.cell 35 (by omega)
    have f35 := HB6.out.sp.fz 35
    rw [show Sp.c { S1 with tEnd := vlen t } 35 = .int .u64 S1.mv from rfl, show S1.mv = 0 by rw [HS1.out]; rfl] at c35
    obtain ⟨r4, hr4⟩ : ∃ r4, r4 = sel % 4 := ⟨_, rfl⟩
    obtain ⟨q4, hq4⟩ : ∃ q4, q4 = sel / 4 := ⟨_, rfl⟩
    have hr1 : (sel : Int) % 4 = r4 := by omega
    have hr2 : (sel : Int).tmod 4 = r4 := by rw [Int.tmod_eq_emod_of_nonneg (by omega)]; omega
    have hr3 : IntKind.u8.wrap (r4 : Int) = r4 := by simp [IntKind.wrap, IntKind.signed, IntKind.bits]; omega
    have hr5 := wrapU (r4 : Int) (by omega) (by omega)
    have hq1 : (sel : Int) / 4 = q4 := by omega
    have hq2 : (sel : Int).tdiv 4 = q4 := by rw [Int.tdiv_eq_ediv_of_nonneg (by omega)]; omega
    have hq3 : IntKind.u8.wrap (q4 : Int) = q4 := by simp [IntKind.wrap, IntKind.signed, IntKind.bits]; omega
    have hq5 := wrapU (q4 : Int) (by omega) (by omega)
    have hq6 := wrapU ((r4 : Int) + q4) (by omega) (by omega)
    obtain ⟨W7, hW7⟩ : ∃ W7, W7 = (w6.setCell ⟨w.heap.size + 1, 54, none⟩ (.int .i64 n6)).setCell ⟨w.heap.size + 1, 35, none⟩ (.int .u64 r4) := ⟨_, rfl⟩
    have HB7 : Hid (BW w W7 { S1 with tEnd := vlen t, bEnd := n6, mv := r4 }) := ⟨by rw [hW7]; exact (HB6.out.set (S' := { S1 with tEnd := vlen t, bEnd := n6 }) 54 (by omega) _ rfl (fun j hj hj0 => by simp [Sp.c, hj0])).set 35 (by omega) _ rfl (fun j hj hj0 => by simp [Sp.c, hj0])⟩
    have HO7 : Hid (W7.ownsRow (w.heap.size + 2) 5 1 (.slice (some ⟨g6, 0, none⟩) n6 cap6) n6 (vals (venc t (vlen t) ++ venc m (vlen m) ++ (List.range m).map kf))) := ⟨by rw [hW7]; exact ownsRow_setCell_below (ownsRow_setCell_below hown6 (by simp only; omega) _) (by simp only; omega) _⟩
    have HN6 := hide hn6
    have HR4 := hide (And.intro hr4 hq4)
    have HW7 := hide hW7
    clear hown6 hW7 HB6 hr4 hq4 hn6 hmu
    go_upto_region 14 with fail
    rw [← HW7.out]
    have d35 := HB7.out.sp.cell 35 (by omega)
    have g35 := HB7.out.sp.fz 35
    rw [show Sp.c { S1 with tEnd := vlen t, bEnd := n6, mv := r4 } 35 = .int .u64 r4 from rfl] at d35
    clear HW7 c54 f54 c35 f35 c33 hmi
    go_upto_if 67 with fail
    go_cut [] (fun wc => BW w wc { S1 with tEnd := vlen t, bEnd := n6, mv := mvOf sel } ∧ wc.ownsRow (w.heap.size + 2) 5 1 (.slice (some ⟨g6, 0, none⟩) n6 cap6) n6 (vals (venc t (vlen t) ++ venc m (vlen m) ++ (List.range m).map kf)))
    case first =>
      by_cases r3 : r4 = 3
      · have r3' : ((r4 : Int) == 3) = true := by simp [r3]
        have HR3 := hide r3
        clear r3
        go_wp2
        go_meet
        have e : mvOf sel = r4 + q4 := by have := HR3.out; unfold mvOf; rw [if_pos (by rw [← HR4.out.1]; exact this), HR4.out.2]; omega
        exact ⟨HB7.out.set 35 (by omega) _ (by rw [e]; simp [Sp.c]) (fun j hj hj0 => by simp [Sp.c, hj0]), ownsRow_setCell_below HO7.out (by simp only; omega) _⟩
      · have r3' : ((r4 : Int) == 3) = false := by simp; omega
        have HR3 := hide r3
        clear r3
        go_wp2
        go_meet
        have e : mvOf sel = r4 := by have := HR3.out; unfold mvOf; rw [if_neg (by rw [← HR4.out.1]; exact this), HR4.out.1]
        exact ⟨by rw [e]; exact HB7.out, HO7.out⟩
    case rest =>
      clear HB7 HO7 d35 g35
      have HBc := hide hcut.1
      have HOc := hide hcut.2
      clear hcut
      obtain ⟨mv, hmv⟩ : ∃ mv, mv = mvOf sel := ⟨_, rfl⟩
      have hmv66 : mv ≤ 66 := by rw [hmv]; unfold mvOf; split <;> omega
      rw [← hmv] at HBc
      have HMV := hide hmv
      have HH : Hid ((head t m kf mv).length = n6 + vlen mv) := ⟨by have := HN6.out; simp [head, venc]; omega⟩
      clear hmv hr1 hr2 hr3 hr5 hq1 hq2 hq3 hq5 hq6 HR4 hvm hvm10
      have c35 := HBc.out.sp.cell 35 (by omega)
      rw [show Sp.c { S1 with tEnd := vlen t, bEnd := n6, mv := mv } 35 = .int .u64 mv from rfl] at c35
      have hn6 : n6 ≤ 100 := by have := vlen_le (n := m) (by omega); have := HN6.out; omega
      go_wp2_with fail
      refine (varint_any (w.heap.size + 2) _ (vals (venc t (vlen t) ++ venc m (vlen m) ++ (List.range m).map kf)) mv _ (by omega) HBc.out.size (by simp [vals, venc]; have := vlen_le (n := m) (by omega); omega) (by rw [show (vals (venc t (vlen t) ++ venc m (vlen m) ++ (List.range m).map kf)).length = n6 by have := HN6.out; simp [vals, venc]; omega]; exact HOc.out)).mono ?_
      rintro e w8 ⟨v8, rfl, hown8, hb8⟩
      have HB8 : Hid (BW w w8 { S1 with tEnd := vlen t, bEnd := n6, mv := mv }) := ⟨HBc.out.below hb8⟩
      clear hb8 HBc HOc c35
      have hvmv : 0 < vlen mv := by unfold vlen; split <;> omega
      have hvmv10 := vlen_le (n := mv) (by omega)
      obtain ⟨n8, hn8⟩ : ∃ n8, n8 = n6 + vlen mv := ⟨_, rfl⟩
      rw [show (vals (venc t (vlen t) ++ venc m (vlen m) ++ (List.range m).map kf)).length + vlen mv = n8 by have := HN6.out; simp [vals, venc]; omega, show vals (venc t (vlen t) ++ venc m (vlen m) ++ (List.range m).map kf) ++ List.map (fun b => Value.int IntKind.u8 ((b : Nat) : Int)) (venc mv (vlen mv)) = vals (head t m kf mv) by simp [vals, head]] at hown8
      obtain ⟨g8, cap8, rfl, hcap8, hg8⟩ := own_pos hown8 (by omega)
      have c55 := HB8.out.sp.cell 55 (by omega)
      have f55 := HB8.out.sp.fz 55
      rw [show Sp.c { S1 with tEnd := vlen t, bEnd := n6, mv := mv } 55 = .int .i64 S1.mEnd from rfl, show S1.mEnd = 0 by rw [HS1.out]; rfl] at c55
      obtain ⟨W9, hW9⟩ : ∃ W9, W9 = w8.setCell ⟨w.heap.size + 1, 55, none⟩ (.int .i64 n8) := ⟨_, rfl⟩
      obtain ⟨S9, hS9⟩ : ∃ S9 : Sp, S9 = { S1 with tEnd := vlen t, bEnd := n6, mv := mv, mEnd := n8 } := ⟨_, rfl⟩
      have HB9 : Hid (BW w W9 S9) := ⟨by rw [hW9, hS9]; exact HB8.out.set 55 (by omega) _ rfl (fun j hj hj0 => by simp [Sp.c, hj0])⟩
      have HO9 : Hid (W9.ownsRow (w.heap.size + 2) 5 1 (.slice (some ⟨g8, 0, none⟩) n8 cap8) n8 (vals (head t m kf mv))) := ⟨by rw [hW9]; exact ownsRow_setCell_below hown8 (by simp only; omega) _⟩
      have hn8' : n8 ≤ 120 := by omega
      have HN8 := hide hn8
      have HS9 := hide hS9
      have HW9 := hide hW9
      clear hown8 hW9 HB8 hn8 hS9
      go_upto_region 18 with fail
      rw [← HW9.out]
      have d35 := HB9.out.sp.cell 35 (by omega)
      rw [show S9.c 35 = .int .u64 S9.mv from rfl, show S9.mv = mv by rw [HS9.out]] at d35
      clear HW9 c55 f55
      go_upto_block 1 with fail
      go_simp
      go_cut [15] (fun v15 wc => ∃ ids, ids.oneCell' = true ∧ BW w wc { S9 with fp := if mv = 1 then fp16 fl ff else fun _ => 0, ids := ids } ∧ wc.ownsRow (w.heap.size + 2) 5 1 v15 (head t m kf mv ++ tail mv (fp16 fl ff) (il / 32) idf).length (vals (head t m kf mv ++ tail mv (fp16 fl ff) (il / 32) idf)))
      case first =>
        by_cases m1 : mv = 1
        · have b1 : ((mv : Int) == 1) = true := by simp [m1]
          have HM1 := hide m1
          clear m1 HI
          obtain ⟨fa, fcap, rfl, hfc, hfn, hfb⟩ := HFP.out.val
          have HFB := hide (And.intro hfc (And.intro hfn hfb))
          clear hfc hfn hfb
          go_wp2_with fail
          go_loopw [16] (fun iv wr => ∃ i : Nat, i ≤ 16 ∧ i ≤ fl ∧ iv = .int .i64 i ∧ BW w wr { S9 with fp := fun j => if j < i then ff j else 0 } ∧ wr.ownsRow (w.heap.size + 2) 5 1 (.slice (some ⟨g8, 0, none⟩) n8 cap8) n8 (vals (head t m kf mv))) (fun iv _ => (16 - intOf iv).toNat)
          case atStart => exact ⟨0, by omega, by omega, rfl, by simpa [HS9.out, HS1.out, Sp.zero] using HB9.out, HO9.out⟩
          case round =>
            clear HB9 HO9 d35
            obtain ⟨i, hi16, hifl, rfl, hb, ho⟩ := hrel
            have HB := hide hb
            have HO := hide ho
            clear hb ho
            by_cases hlt : i < 16 ∧ i < fl
            · obtain ⟨h1, h2⟩ := hlt
              obtain ⟨fb, fo, rfl, hfcell⟩ := HFB.out.2.2 i h2
              have hc1 : wr.cell? ⟨fb, fo + i, none⟩ = some (.int .u8 (ff i)) := by rw [HB.out.bel.cell (World.block_lt_of_cell? _ _ hfcell)]; exact hfcell
              have hc2 := HB.out.sp.cell (36 + i) (by omega)
              have hc3 := HB.out.sp.fz (36 + i)
              have hi1 : (i : Int) < 16 := by omega
              have hi2 : (i : Int) < fl := by omega
              have hi3 : decide (i < fl) = true := by simpa using h2
              clear hfcell
              go_wp2
              go_roundw
              case rel => exact ⟨i + 1, by omega, by omega, by go_num, HB.out.set (36 + i) (by omega) _ (by simp [Sp.c, show ¬ 36 + i = 0 by omega, show ¬ 36 + i < 33 by omega, show ¬ 36 + i = 33 by omega, show ¬ 36 + i = 34 by omega, show ¬ 36 + i = 35 by omega, show 36 + i < 52 by omega]) (fun j hj hj0 => by
                simp only [Sp.c]
                by_cases e : 36 ≤ j ∧ j < 52
                · have : (j - 36 < i + 1) = (j - 36 < i) := by simp; omega
                  simp [this]
                · have h1 : (j = 0 ∨ j < 33 ∨ j = 33 ∨ j = 34 ∨ j = 35 ∨ ¬ j < 52) := by omega
                  rcases h1 with h | h | h | h | h | h <;> simp [h]), ownsRow_setCell_below HO.out (by simp only; omega) _⟩
              case measure => simp [intOf]; omega
            · have hfeq : Hid ((fun j => if j < i then ff j else 0) = fp16 fl ff) := ⟨funext fun j => by
                unfold fp16
                by_cases hj : j < i
                · rw [if_pos hj, if_pos (by omega)]
                · rw [if_neg hj, if_neg (by omega)]⟩
              have HK16 : Hid (((List.range 16).map fun i => Value.int IntKind.u8 ((fp16 fl ff i : Nat) : Int)).length = 16 * 1 ∧ (∀ j u, ((List.range 16).map fun i => Value.int IntKind.u8 ((fp16 fl ff i : Nat) : Int))[j]? = some u → wr.cell? ((⟨w.heap.size + 1, 36, none⟩ : Addr).add j) = some u) ∧ ∀ u ∈ ((List.range 16).map fun i => Value.int IntKind.u8 ((fp16 fl ff i : Nat) : Int)), u.oneCell' = true) := by
                refine ⟨by simp, fun j u hj => ?_, fun u hu => by obtain ⟨i, _, rfl⟩ := List.mem_map.1 hu; rfl⟩
                have hjm : j < 16 := by have := (List.getElem?_eq_some_iff.1 hj).1; simpa using this
                rw [add_plain, HB.out.sp.cell (36 + j) (by omega)]
                rw [List.getElem?_map, List.getElem?_range hjm] at hj
                rw [← hj, ← hfeq.out]
                simp [Sp.c, show ¬ 36 + j = 0 by omega, show ¬ 36 + j < 33 by omega, show ¬ 36 + j = 33 by omega, show ¬ 36 + j = 34 by omega, show ¬ 36 + j = 35 by omega, show 36 + j < 52 by omega]
              by_cases h1 : i < 16
              · have hi1 : (i : Int) < 16 := by omega
                have hi2 : ¬ (i : Int) < fl := by omega
                have hi3 : decide (i < fl) = false := by simp; omega
                clear hlt
                go_wp2_with (first
                  | (at_builtin; refine wpList_append_own _ rfl _ _ 23 rfl (w.heap.size + 2) 5 i0 (.int .u8 0) 1 1 Ybaf.underlying23 hi hz0 hz1 hz2 rfl (by decide) _ _ _ rfl HO.out ⟨w.heap.size + 1, 36, none⟩ 16 16 ((List.range 16).map fun i => Value.int IntKind.u8 ((fp16 fl ff i : Nat) : Int)) rfl HK16.out.1 HK16.out.2.1 HK16.out.2.2 (by unfold maxLen; omega) (by omega) HB.out.size ?_))
                intro v10 w10 hown10 hgrow10 _
                have hb10 : Below (w.heap.size + 2) wr w10 := own_grown_below HO.out hgrow10 (Below.refl _ _) HB.out.size
                have HB10 := hide (HB.out.below hb10)
                have HO10 := hide hown10
                clear hb10 hgrow10 hown10 HO HB HK16
                go_wp2
                go_meet
                have et : tail mv (fp16 fl ff) (il / 32) idf = (List.range 16).map (fp16 fl ff) := by unfold tail; rw [if_pos HM1.out]
                refine ⟨S9.ids, by rw [HS9.out, HS1.out]; rfl, ?_, ?_⟩
                · rw [if_pos HM1.out, ← hfeq.out]; exact HB10.out
                · rw [et, show (head t m kf mv ++ List.map (fp16 fl ff) (List.range 16)).length = n8 + 16 by rw [List.length_append, HH.out, ← HN8.out]; simp, show vals (head t m kf mv ++ List.map (fp16 fl ff) (List.range 16)) = vals (head t m kf mv) ++ (List.range 16).map fun i => Value.int IntKind.u8 ((fp16 fl ff i : Nat) : Int) by simp [vals]]
                  exact HO10.out
              · obtain rfl : i = 16 := by omega
                clear hlt
                go_wp2_with (first
                  | (at_builtin; refine wpList_append_own _ rfl _ _ 23 rfl (w.heap.size + 2) 5 i0 (.int .u8 0) 1 1 Ybaf.underlying23 hi hz0 hz1 hz2 rfl (by decide) _ _ _ rfl HO.out ⟨w.heap.size + 1, 36, none⟩ 16 16 ((List.range 16).map fun i => Value.int IntKind.u8 ((fp16 fl ff i : Nat) : Int)) rfl HK16.out.1 HK16.out.2.1 HK16.out.2.2 (by unfold maxLen; omega) (by omega) HB.out.size ?_))
                intro v10 w10 hown10 hgrow10 _
                have hb10 : Below (w.heap.size + 2) wr w10 := own_grown_below HO.out hgrow10 (Below.refl _ _) HB.out.size
                have HB10 := hide (HB.out.below hb10)
                have HO10 := hide hown10
                clear hb10 hgrow10 hown10 HO HB HK16
                go_wp2
                go_meet
                have et : tail mv (fp16 fl ff) (il / 32) idf = (List.range 16).map (fp16 fl ff) := by unfold tail; rw [if_pos HM1.out]
                refine ⟨S9.ids, by rw [HS9.out, HS1.out]; rfl, ?_, ?_⟩
                · rw [if_pos HM1.out, ← hfeq.out]; exact HB10.out
                · rw [et, show (head t m kf mv ++ List.map (fp16 fl ff) (List.range 16)).length = n8 + 16 by rw [List.length_append, HH.out, ← HN8.out]; simp, show vals (head t m kf mv ++ List.map (fp16 fl ff) (List.range 16)) = vals (head t m kf mv) ++ (List.range 16).map fun i => Value.int IntKind.u8 ((fp16 fl ff i : Nat) : Int) by simp [vals]]
                  exact HO10.out
        · by_cases m2 : mv = 2
          · have b1 : ((mv : Int) == 1) = false := by simp [m2]
            have b2 : ((mv : Int) == 2) = true := by simp [m2]
            have HM2 := hide m2
            clear m1 m2 HFP
            obtain ⟨ia, icap, rfl, hic, hin, hib⟩ := HI.out.val
            have HIB := hide (And.intro hic (And.intro hin hib))
            clear hin hib
            obtain ⟨cnt, hcnt⟩ : ∃ cnt, cnt = il / 32 := ⟨_, rfl⟩
            obtain ⟨x, hx⟩ : ∃ x, x = 32 * cnt := ⟨_, rfl⟩
            have hc1 : (il : Int) / 32 = cnt := by omega
            have hc2 : (il : Int).tdiv 32 = cnt := by rw [Int.tdiv_eq_ediv_of_nonneg (by omega)]; omega
            have hc3 := wrap_in (cnt : Int) (by omega) (by omega)
            have hc4 := wrapU (cnt : Int) (by omega) (by omega)
            have hc5 : (cnt : Int) * 32 = x := by omega
            have hc6 := wrap_in (x : Int) (by omega) (by omega)
            have hxl : x ≤ il := by omega
            have hxi : (x : Int) ≤ il := by omega
            have hxc : (x : Int) ≤ icap := by omega
            have hcnt2 : cnt ≤ 256 := by omega
            have HCNT := hide hcnt
            have HXC := hide hx
            have HX1 : Hid (((List.range x).map fun i => Value.int IntKind.u8 ((idf i : Nat) : Int)).length = x * 1 ∧ ∀ u ∈ ((List.range x).map fun i => Value.int IntKind.u8 ((idf i : Nat) : Int)), u.oneCell' = true) := ⟨by simp, fun u hu => by obtain ⟨i, _, rfl⟩ := List.mem_map.1 hu; rfl⟩
            clear hcnt hx
            have hvc : 0 < vlen cnt := by unfold vlen; split <;> omega
            have hvc10 := vlen_le (n := cnt) (by omega)
            go_wp2_with fail
            refine (varint_any (w.heap.size + 2) _ (vals (head t m kf mv)) cnt _ (by omega) HB9.out.size (by simp [vals, HH.out]; omega) (by rw [show (vals (head t m kf mv)).length = n8 by simp [vals, HH.out]; exact HN8.out.symm]; exact HO9.out)).mono ?_
            rintro e w10 ⟨v10, rfl, hown10, hb10⟩
            have HB10 : Hid (BW w w10 S9) := ⟨HB9.out.below hb10⟩
            clear hb10 HB9 HO9 d35
            obtain ⟨n10, hn10⟩ : ∃ n10, n10 = n8 + vlen cnt := ⟨_, rfl⟩
            rw [show (vals (head t m kf mv)).length + vlen cnt = n10 by have := HN8.out; have := HH.out; simp [vals]; omega, show vals (head t m kf mv) ++ List.map (fun b => Value.int IntKind.u8 ((b : Nat) : Int)) (venc cnt (vlen cnt)) = vals (head t m kf mv ++ venc cnt (vlen cnt)) by simp [vals]] at hown10
            obtain ⟨g10, cap10, rfl, hcap10, hg10⟩ := own_pos hown10 (by omega)
            have hn10' : n10 ≤ 130 := by omega
            have HN10 := hide hn10
            have HO10 := hide hown10
            have hgl10 : g10 < w10.heap.size := (HO10.out.lt g10 rfl).2
            clear hn10 hown10
            cases ia with
            | none =>
              obtain rfl : icap = 0 := HIB.out.2.1 rfl
              obtain rfl : il = 0 := by omega
              obtain rfl : x = 0 := by omega
              have HB11 : Hid (BW w (w10.alloc (.cells #[] 5)) S9) := ⟨HB10.out.below ((Below.refl _ _).alloc HB10.out.size _)⟩
              have HOm : Hid ((w10.alloc (.cells #[] 5)).ownsRow (w.heap.size + 2) 5 1 (.slice (some ⟨g10, 0, none⟩) n10 cap10) n10 (vals (head t m kf mv ++ venc cnt (vlen cnt)))) := ⟨HO10.out.alloc _⟩
              have HOi : Hid ((w10.alloc (.cells #[] 5)).ownsRow (w.heap.size + 2) 5 1 (.slice (some ⟨w10.heap.size, 0, none⟩) 0 0) 0 ((List.range 0).map fun i => Value.int IntKind.u8 ((idf i : Nat) : Int))) := ⟨World.ownsRow_made w10 #[] 0 HB10.out.size (by simp [maxLen]) rfl⟩
              have HMK := HOi
              obtain rfl : cnt = 0 := by omega
              clear hc1 hc2 hc3 hc4 hc5 hc6 hxl hxi hxc
              have c52 := HB11.out.sp.cell 52 (by omega)
              have f52 := HB11.out.sp.fz 52
              rw [show S9.c 52 = S9.ids from rfl] at c52
              obtain ⟨W12, hW12⟩ : ∃ W12, W12 = (w10.alloc (.cells #[] 5)).setCell ⟨w.heap.size + 1, 52, none⟩ (.slice (some ⟨w10.heap.size, 0, none⟩) 0 0) := ⟨_, rfl⟩
              have HB12 : Hid (BW w W12 { S9 with ids := .slice (some ⟨w10.heap.size, 0, none⟩) 0 0 }) := ⟨by rw [hW12]; exact HB11.out.set 52 (by omega) _ rfl (fun j hj hj0 => by simp [Sp.c, hj0])⟩
              have HO12 : Hid (W12.ownsRow (w.heap.size + 2) 5 1 (.slice (some ⟨g10, 0, none⟩) n10 cap10) n10 (vals (head t m kf mv ++ venc 0 (vlen 0)))) := ⟨by rw [hW12]; exact ownsRow_setCell_below HOm.out (by simp only; omega) _⟩
              have HOi12 : Hid (W12.ownsRow (w.heap.size + 2) 5 1 (.slice (some ⟨w10.heap.size, 0, none⟩) 0 0) 0 ((List.range 0).map fun i => Value.int IntKind.u8 ((idf i : Nat) : Int))) := ⟨by rw [hW12]; exact ownsRow_setCell_below HOi.out (by simp only; omega) _⟩
              have HSRC : Hid (∀ j u, ((List.range 0).map fun i => Value.int IntKind.u8 ((idf i : Nat) : Int))[j]? = some u → W12.cell? ((⟨w10.heap.size, 0, none⟩ : Addr).add j) = some u) := ⟨HOi12.out.cells rfl⟩
              have hc52 : W12.cell? ⟨w.heap.size + 1, 52, none⟩ = some (.slice (some ⟨w10.heap.size, 0, none⟩) 0 0) := by rw [HB12.out.sp.cell 52 (by omega)]; rfl
              have HW12 := hide hW12
              clear hW12 HB11 HOm HOi
              go_upto_region 29 with (at_builtin; refine wpList_append_own_none rfl _ _ 23 rfl (w.heap.size + 2) 5 i0 1 Ybaf.underlying23 hi _ _ _ rfl HMK.out rfl ?_)
              rw [← HW12.out]
              clear HW12 c52 f52
              go_wp2_with (first
                | (at_builtin; refine wpList_append_own _ rfl _ _ 23 rfl (w.heap.size + 2) 5 i0 (.int .u8 0) 1 1 Ybaf.underlying23 hi hz0 hz1 hz2 rfl (by decide) _ _ _ rfl HO12.out ⟨w10.heap.size, 0, none⟩ 0 0 ((List.range 0).map fun i => Value.int IntKind.u8 ((idf i : Nat) : Int)) rfl HX1.out.1 HSRC.out HX1.out.2 (by unfold maxLen; omega) (by omega) HB12.out.size ?_))
              intro v13 w13 hown13 hgrow13 _
              have hb13 : Below (w.heap.size + 2) W12 w13 := own_grown_below HO12.out hgrow13 (Below.refl _ _) HB12.out.size
              have HB13 := hide (HB12.out.below hb13)
              have HO13 := hide hown13
              clear hb13 hgrow13 hown13 HO12 HB12 HOi12 HSRC hc52
              go_wp2
              go_meet
              have hm2 := HM2.out
              have et : tail mv (fp16 fl ff) (0 / 32) idf = venc 0 (vlen 0) ++ (List.range 0).map idf := by unfold tail; rw [if_neg (by omega), if_pos hm2]
              refine ⟨.slice (some ⟨w10.heap.size, 0, none⟩) 0 0, rfl, ?_, ?_⟩
              · rw [if_neg (by omega)]
                have : ({ S9 with ids := .slice (some ⟨w10.heap.size, 0, none⟩) 0 0 } : Sp) = { S9 with fp := fun _ => 0, ids := .slice (some ⟨w10.heap.size, 0, none⟩) 0 0 } := by rw [HS9.out, HS1.out]; rfl
                rw [← this]
                exact HB13.out
              · rw [et, show (head t m kf mv ++ (venc 0 (vlen 0) ++ List.map idf (List.range 0))).length = n10 by have := HN10.out; have := HH.out; have := HN8.out; simp [venc]; omega, show vals (head t m kf mv ++ (venc 0 (vlen 0) ++ List.map idf (List.range 0))) = vals (head t m kf mv ++ venc 0 (vlen 0)) by simp [vals]]
                exact HO13.out
            | some ad =>
              have HAD : Hid (∀ j u, ((List.range x).map fun i => Value.int IntKind.u8 ((idf i : Nat) : Int))[j]? = some u → (w10.alloc (.cells #[] 5)).cell? (ad.add j) = some u) := by
                refine ⟨fun j u hj => ?_⟩
                have hjm : j < x := by have := (List.getElem?_eq_some_iff.1 hj).1; simpa using this
                obtain ⟨ib, io, e, hc⟩ := HIB.out.2.2 j (by omega)
                injection e with e
                subst e
                rw [List.getElem?_map, List.getElem?_range hjm] at hj
                rw [add_plain, ← hj]
                have hbl := World.block_lt_of_cell? _ _ hc
                rw [((Below.refl _ _).alloc (Nat.le_refl _) _ : Below w10.heap.size w10 _).cell (by exact Nat.lt_of_lt_of_le hbl HB10.out.bel.size), HB10.out.bel.cell (by exact hbl)]
                exact hc
              have HMK : Hid ((w10.alloc (.cells #[] 5)).ownsRow (w.heap.size + 2) 5 1 (.slice (some ⟨w10.heap.size, 0, none⟩) 0 0) 0 []) := ⟨World.ownsRow_made w10 #[] 0 HB10.out.size (by simp [maxLen]) rfl⟩
              have hbs : w.heap.size + 2 ≤ (w10.alloc (.cells #[] 5)).heap.size := by have := HB10.out.size; simp; omega
              go_wp2_with (first
                | (at_builtin; refine wpList_append_own _ rfl _ _ 23 rfl (w.heap.size + 2) 5 i0 (.int .u8 0) 1 1 Ybaf.underlying23 hi hz0 hz1 hz2 rfl (by decide) _ _ _ rfl HMK.out ad x icap ((List.range x).map fun i => Value.int IntKind.u8 ((idf i : Nat) : Int)) rfl HX1.out.1 HAD.out HX1.out.2 (by unfold maxLen; omega) (by omega) hbs ?_))
              intro v11 w11 hown11 hgrow11 hiff
              obtain ⟨g11, cap11, rfl⟩ : ∃ g11 cap11, v11 = .slice (some ⟨g11, 0, none⟩) x cap11 := by
                obtain ⟨_, (⟨h, _⟩ | ⟨g11, cap11, cur, h, _⟩)⟩ := hown11
                · exact (hiff h).elim
                · exact ⟨g11, cap11, by simpa using h⟩
              have hb11 : Below (w.heap.size + 2) (w10.alloc (.cells #[] 5)) w11 := own_grown_below HMK.out hgrow11 (Below.refl _ _) hbs
              have HB11 : Hid (BW w w11 S9) := ⟨(HB10.out.below ((Below.refl _ _).alloc HB10.out.size _)).below hb11⟩
              have HOm : Hid (w11.ownsRow (w.heap.size + 2) 5 1 (.slice (some ⟨g10, 0, none⟩) n10 cap10) n10 (vals (head t m kf mv ++ venc cnt (vlen cnt)))) := ⟨(HO10.out.alloc _).kept hgrow11 (Or.inr (by simp [Value.ownBlock]; omega))⟩
              try simp only [Nat.zero_add, List.nil_append] at hown11
              have HOi := hide hown11
              clear hown11 hgrow11 hiff hb11 HMK HAD HO10 HB10
              have c52 := HB11.out.sp.cell 52 (by omega)
              have f52 := HB11.out.sp.fz 52
              rw [show S9.c 52 = S9.ids from rfl] at c52
              obtain ⟨W12, hW12⟩ : ∃ W12, W12 = w11.setCell ⟨w.heap.size + 1, 52, none⟩ (.slice (some ⟨g11, 0, none⟩) x cap11) := ⟨_, rfl⟩
              have HB12 : Hid (BW w W12 { S9 with ids := .slice (some ⟨g11, 0, none⟩) x cap11 }) := ⟨by rw [hW12]; exact HB11.out.set 52 (by omega) _ rfl (fun j hj hj0 => by simp [Sp.c, hj0])⟩
              have HO12 : Hid (W12.ownsRow (w.heap.size + 2) 5 1 (.slice (some ⟨g10, 0, none⟩) n10 cap10) n10 (vals (head t m kf mv ++ venc cnt (vlen cnt)))) := ⟨by rw [hW12]; exact ownsRow_setCell_below HOm.out (by simp only; omega) _⟩
              have HOi12 : Hid (W12.ownsRow (w.heap.size + 2) 5 1 (.slice (some ⟨g11, 0, none⟩) x cap11) x ((List.range x).map fun i => Value.int IntKind.u8 ((idf i : Nat) : Int))) := ⟨by rw [hW12]; exact ownsRow_setCell_below HOi.out (by simp only; omega) _⟩
              have HSRC : Hid (∀ j u, ((List.range x).map fun i => Value.int IntKind.u8 ((idf i : Nat) : Int))[j]? = some u → W12.cell? ((⟨g11, 0, none⟩ : Addr).add j) = some u) := ⟨HOi12.out.cells rfl⟩
              have hc52 : W12.cell? ⟨w.heap.size + 1, 52, none⟩ = some (.slice (some ⟨g11, 0, none⟩) x cap11) := by rw [HB12.out.sp.cell 52 (by omega)]; rfl
              have HW12 := hide hW12
              clear hW12 HB11 HOm HOi
              go_upto_region 29 with fail
              rw [← HW12.out]
              clear HW12 c52 f52
              go_wp2_with (first
                | (at_builtin; refine wpList_append_own _ rfl _ _ 23 rfl (w.heap.size + 2) 5 i0 (.int .u8 0) 1 1 Ybaf.underlying23 hi hz0 hz1 hz2 rfl (by decide) _ _ _ rfl HO12.out ⟨g11, 0, none⟩ x cap11 ((List.range x).map fun i => Value.int IntKind.u8 ((idf i : Nat) : Int)) rfl HX1.out.1 HSRC.out HX1.out.2 (by unfold maxLen; omega) (by omega) HB12.out.size ?_))
              intro v13 w13 hown13 hgrow13 _
              have hb13 : Below (w.heap.size + 2) W12 w13 := own_grown_below HO12.out hgrow13 (Below.refl _ _) HB12.out.size
              have HB13 := hide (HB12.out.below hb13)
              have HO13 := hide hown13
              clear hb13 hgrow13 hown13 HO12 HB12 HOi12 HSRC hc52
              go_wp2
              go_meet
              have hm2 := HM2.out
              have et : tail mv (fp16 fl ff) (il / 32) idf = venc cnt (vlen cnt) ++ (List.range x).map idf := by unfold tail; rw [if_neg (by omega), if_pos hm2, ← HCNT.out, HXC.out]
              refine ⟨.slice (some ⟨g11, 0, none⟩) x cap11, rfl, ?_, ?_⟩
              · rw [if_neg (by omega)]
                have : ({ S9 with ids := .slice (some ⟨g11, 0, none⟩) x cap11 } : Sp) = { S9 with fp := fun _ => 0, ids := .slice (some ⟨g11, 0, none⟩) x cap11 } := by rw [HS9.out, HS1.out]; rfl
                rw [← this]
                exact HB13.out
              · rw [et, show (head t m kf mv ++ (venc cnt (vlen cnt) ++ List.map idf (List.range x))).length = n10 + x by have := HN10.out; have := HH.out; have := HN8.out; simp [venc]; omega, show vals (head t m kf mv ++ (venc cnt (vlen cnt) ++ List.map idf (List.range x))) = vals (head t m kf mv ++ venc cnt (vlen cnt)) ++ (List.range x).map fun i => Value.int IntKind.u8 ((idf i : Nat) : Int) by simp [vals]]
                exact HO13.out
          · have b1 : ((mv : Int) == 1) = false := by simp; omega
            have b2 : ((mv : Int) == 2) = false := by simp; omega
            have HM12 := hide (And.intro m1 m2)
            clear m1 m2 HI HFP
            go_wp2
            go_meet
            have hm12 := HM12.out
            have et : tail mv (fp16 fl ff) (il / 32) idf = [] := by unfold tail; rw [if_neg hm12.1, if_neg hm12.2]
            refine ⟨S9.ids, by rw [HS9.out, HS1.out]; rfl, ?_, ?_⟩
            · rw [if_neg hm12.1]
              have : S9 = ({ S9 with fp := fun _ => 0 } : Sp) := by rw [HS9.out, HS1.out]; rfl
              rw [← this]
              exact HB9.out
            · rw [et, List.append_nil, HH.out, ← HN8.out]
              exact HO9.out
      case rest =>
        clear HB9 HO9 d35 HI HFP hi hz0 hz1 hz2
        obtain ⟨ids, hid1, hbc, hoc⟩ := hcut
        obtain ⟨S, hS⟩ : ∃ S : Sp, S = { S9 with fp := if mv = 1 then fp16 fl ff else fun _ => 0, ids := ids } := ⟨_, rfl⟩
        obtain ⟨L, hL⟩ : ∃ L, L = head t m kf mv ++ tail mv (fp16 fl ff) (il / 32) idf := ⟨_, rfl⟩
        rw [← hS] at hbc
        rw [← hL] at hoc
        obtain ⟨n, hn⟩ : ∃ n, n = L.length := ⟨_, rfl⟩
        rw [← hn] at hoc
        have hnpos : 0 < n := by rw [hn, hL, List.length_append, HH.out]; omega
        obtain ⟨g, cap, rfl, hcap, hg⟩ := own_pos hoc hnpos
        have c56 := hbc.sp.cell 56 (by omega)
        have f56 := hbc.sp.fz 56
        rw [show S.c 56 = .int .i64 S.en from rfl] at c56
        obtain ⟨WF, hWF⟩ : ∃ WF, WF = wc.setCell ⟨w.heap.size + 1, 56, none⟩ (.int .i64 n) := ⟨_, rfl⟩
        have HBF : Hid (BW w WF { S with en := n }) := ⟨by rw [hWF]; exact hbc.set 56 (by omega) _ rfl (fun j hj hj0 => by
          simp only [Sp.c]
          have h1 : (j = 0 ∨ j < 33 ∨ j = 33 ∨ j = 34 ∨ j = 35 ∨ j < 52 ∨ j = 52 ∨ j = 53 ∨ j = 54 ∨ j = 55) := by omega
          rcases h1 with h | h | h | h | h | h | h | h | h | h <;> simp [h])⟩
        have HOF : Hid (WF.ownsRow (w.heap.size + 2) 5 1 (.slice (some ⟨g, 0, none⟩) n cap) n (vals L)) := ⟨by rw [hWF]; exact ownsRow_setCell_below hoc (by simp only; omega) _⟩
        have HSP : Hid (({ S with en := n } : Sp) = specOf t last (min kl 32) kf (mvOf sel) (fp16 fl ff) ids (il / 32) idf) := ⟨by
          rw [hS, HS9.out, HS1.out, hn, hL, ← HM.out, ← HMV.out, HN8.out, HN6.out]
          unfold specOf
          rfl⟩
        have HWF := hide hWF
        have HLN := hide (And.intro hL hn)
        clear hWF hbc hoc hS hL hn
        go_upto_region 31 with fail
        rw [← HWF.out]
        clear HWF c56 f56
        obtain ⟨SF, hSF⟩ : ∃ SF : Sp, SF = { S with en := n } := ⟨_, rfl⟩
        rw [← hSF] at HBF
        rw [← hSF] at HSP
        have hone := SF.one (by rw [HSP.out]; exact hid1)
        obtain ⟨C, hC⟩ : ∃ C, C = SF.arr := ⟨_, rfl⟩
        have hCs : C.size = 57 := by rw [hC]; exact SF.arr_size
        have hCg : ∀ j, j < 57 → C[j]? = some (SF.c j) := fun j hj => by rw [hC]; exact SF.arr_get hj
        rw [← hC] at hone
        have hload : (loadVar 32 ⟨w.heap.size + 1, 0, none⟩).run Ybaf.prog WF.drew = .ok (.agg C) WF.drew := load_agg WF.drew 32 _ 0 C _ Ybaf.underlying32 rfl (by rw [hCs]; exact Ybaf.size32) (fun j v hv => by
          have hj57 : j < 57 := by have := (Array.getElem?_eq_some_iff.1 hv).1; omega
          rw [hCg j hj57] at hv
          rw [Nat.zero_add, ← hv]
          exact HBF.out.sp.cell j hj57)
        have hstore : (storeVar 32 ⟨w.heap.size, 0, none⟩ (.agg C)).run Ybaf.prog WF.drew = .ok () (WF.drew.setCells w.heap.size 0 C.toList) := store_agg WF.drew 32 _ 0 C (by rw [hCs]; exact Ybaf.size32) (fun j hj => by rw [hCs] at hj; rw [Nat.zero_add]; exact HBF.out.rc j hj) (fun j _ => HBF.out.rf _) hone
        obtain ⟨WR, hWR⟩ : ∃ WR, WR = WF.drew.setCells w.heap.size 0 C.toList := ⟨_, rfl⟩
        have hbR : Hid (Below w.heap.size w WR) := ⟨by rw [hWR]; exact below_setCells _ (Nat.le_refl _) _ _ _ HBF.out.bel.drew⟩
        have hoR : Hid (WR.ownsRow (w.heap.size + 2) 5 1 (.slice (some ⟨g, 0, none⟩) n cap) n (vals L)) := ⟨by
          refine HOF.out.kept (row := some w.heap.size) (w' := WR) ?_ (Or.inr (by simp [Value.ownBlock]; omega))
          rw [hWR]
          refine ⟨(misc_setCells _ _ _ _).1, (misc_setCells _ _ _ _).2.1, (misc_setCells _ _ _ _).2.2, by rw [size_setCells]; exact Nat.le_refl _, fun k hk hne => ?_⟩
          exact heap_setCells _ _ (fun e => hne (by rw [e])) _ _ _⟩
        have hload2 : (loadVar 32 ⟨w.heap.size, 0, none⟩).run Ybaf.prog WR = .ok (.agg C) WR := load_agg WR 32 _ 0 C _ Ybaf.underlying32 rfl (by rw [hCs]; exact Ybaf.size32) (fun j v hv => by
          have hj57 : j < 57 := by have := (Array.getElem?_eq_some_iff.1 hv).1; omega
          have := World.cell?_setCells_in w.heap.size C.toList 0 WF.drew (fun i hi => by rw [Array.length_toList, hCs] at hi; rw [Nat.zero_add]; exact HBF.out.rc i hi) j (by rw [Array.length_toList, hCs]; exact hj57)
          rw [hWR, this, ← hv, Array.getElem?_eq_getElem (by rw [hCs]; exact hj57)]
          simp)
        rw [← hWR] at hstore
        have HLD := hide hload2
        have HC := hide hC
        clear hWR hCg hone hCs hC hSF HBF HOF hload2
        go_wp2_with fail
        refine wp_region_any (by kernel_rfl) ?_
        change wpAny _ _ _ _ _ _ _ (World.drew _)
        refine wpAny_take (i := 0) (v := ?v0) rfl (by kernel_rfl) (by kernel_rfl) (by kernel_rfl) (fun _ _ _ h => h) (Or.inl ⟨by rfl, ?hy0⟩) ?_
        case hy0 => intro w; go_simp; first | done | (with_reducible rfl)
        refine wpAny_take (i := 2) (v := ?v2) rfl (by kernel_rfl) (by kernel_rfl) (by kernel_rfl) (fun _ _ _ h => h) (Or.inl ⟨by rfl, ?hy2⟩) ?_
        case hy2 => intro w; go_simp; first | done | (with_reducible rfl)
        refine wpAny_ready (rs := [1]) (by kernel_rfl) (by simp) ?_
        refine AllReady.cons rfl (fun K1 hK1 => ?_) AllReady.nil
        rw [if_pos (by rfl)]
        refine wp_load_run 32 (.tmp 14) rfl ⟨w.heap.size + 1, 0, none⟩ ?hx1 _ hload ?_
        case hx1 => go_simp
        refine hK1 _ _ ?_
        refine wpAny_ready (rs := [3]) (by kernel_rfl) (by simp) ?_
        refine AllReady.cons rfl (fun K2 hK2 => ?_) AllReady.nil
        rw [if_pos (by rfl)]
        refine wp_store_run 32 (.tmp 13) (.tmp 131) rfl ⟨w.heap.size, 0, none⟩ ?hx2 (.agg C) ?hx3 hstore ?_
        case hx2 => go_simp
        case hx3 => go_simp
        refine hK2 _ _ ?_
        refine wpAny_done (by kernel_rfl) ?_ _
        go_wp2
        refine bodyPost_ret (v := .tuple #[.slice (some ⟨g, 0, none⟩) n cap, .agg C]) (results_two (s := 12) (p := 13) (ty := 32) rfl _ _ _ ?r1 ⟨w.heap.size, 0, none⟩ _ ?r2 HLD.out) rfl ?_
        case r1 => go_simp
        case r2 => go_simp
        refine ⟨w.heap.size + 2, .slice (some ⟨g, 0, none⟩) n cap, ids, ?_, by omega, ?_, hbR.out, hid1⟩
        · rw [← HSP.out, HC.out]
        · rw [← HM.out, ← HMV.out, ← HLN.out.1, ← HLN.out.2]; exact hoR.out
end Go.Proofs.YbulkcgfiFmt
