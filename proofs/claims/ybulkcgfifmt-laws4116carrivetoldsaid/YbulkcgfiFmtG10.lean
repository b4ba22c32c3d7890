import Derived.Test.YbulkcgfiFmtG9
namespace Go.Proofs.YbulkcgfiFmt
open Go.RowKit Go.Extern.Stop Go.Stop Go.Extern
set_option linter.unusedVariables false
set_option linter.unusedSimpArgs false
/-- What readBound leaves behind. -/
def BndPost (T : Nat → Prop) (b g k o t m last : Nat) (f : Nat → Nat) (St : World → Nat → Prop) (w : World) (e : Ending) (w' : World) : Prop :=
  (o + vlen t + vlen m + m ≤ k ∧ tsOk t last ∧ e = .returned .nilIface ∧ St w' (o + vlen t + vlen m + m) ∧ BndAt w' g (tsv t last) f m ∧ w'.cell? ⟨b, 4, none⟩ = some (.int .u64 (tsv t last)) ∧ Fq T b g 5 w w' ∧ (∀ j, 34 ≤ j → w'.cell? ⟨g, j, none⟩ = w.cell? ⟨g, j, none⟩)) ∨
  ((k < o + vlen t + vlen m + m ∨ ¬ tsOk t last) ∧ ∃ pb off o', e = .returned (.iface 46 (.pointer (some ⟨pb, 0, none⟩))) ∧ w'.cell? ⟨pb, 0, none⟩ = some (.int .i64 ((off : Nat) : Int)) ∧ off ≤ k ∧ St w' o' ∧ Fq T b g 5 w w' ∧ (o + vlen t + vlen m + m ≤ k → off = o + vlen t ∧ o' = o + vlen t))
set_option maxRecDepth 100000 in
set_option maxHeartbeats 1000000 in
/-- messageReader.readBound -/
theorem rbound {en : Prop} {T : Nat → Prop} {b k : Nat} {E : Nat → Nat} {St Sw : World → Nat → Prop} (R : Rdr en T b k E St Sw) (F : Interp) (g t m o last : Nat) (f : Nat → Nat) (w : World) (hen : k < o + vlen t + vlen m + m → en) (hF : F.answers w.tape) (ht : t < 18446744073709551616) (hm : m ≤ 32) (hlast : last < 18446744073709551616) (hok : o ≤ k) (hE1 : At E k o (vlen t) fun i => vb t (vlen t - 1 - i)) (hE2 : At E k (o + vlen t) (vlen m) fun i => vb m (vlen m - 1 - i)) (hE3 : At E k (o + vlen t + vlen m) m f) (hT : ¬ T g) (hTb : ¬ T b) (hgb : g ≠ b) (hG : G0 w g) (c4 : w.cell? ⟨b, 4, none⟩ = some (.int .u64 last)) (f4 : w.frozen? ⟨b, 4, none⟩ = false) (hs : St w o) :
    Calls Ybaf.prog 12 #[.pointer (some ⟨b, 0, none⟩), .pointer (some ⟨g, 0, none⟩)] w (BndPost T b g k o t m last f St w) := by
  have HR := hide R
  have HEN := hide hen
  have HF := hide hF
  have HE := hide (And.intro hE1 (And.intro hE2 hE3))
  have HG := hide hG
  have HS := hide hs
  have HC4 := hide (And.intro c4 f4)
  clear R hF hE1 hE2 hE3 hG hs c4 f4 hen
  go_enter Ybaf.func12, Ybaf.ntmps12
  go_wp2_with fail
  refine (rvarint HR.out t o _ (fun h => HEN.out (by omega)) ht hok HE.out.1 HS.out).mono ?_
  have hgl := HG.out.lt
  rintro e w1 (⟨hk1, rfl, hst1, hfk1⟩ | ⟨hk1, pb, rfl, hpb, hst1, hfk1⟩)
  · have hbl1 := HR.out.lt _ _ hst1
    have hgl1 : g < w1.heap.size := Nat.lt_of_lt_of_le hgl hfk1.size
    have c4 : w1.cell? ⟨b, 4, none⟩ = some (.int .u64 last) := by rw [hfk1.cell 4 (by omega)]; exact HC4.out.1
    have f4 : w1.frozen? ⟨b, 4, none⟩ = false := by rw [hfk1.frz]; exact HC4.out.2
    have hblk : w1.heap[g]? = w.heap[g]? := hfk1.block g hgl hT hgb
    have HG1 : Hid (G0 w1 g) := ⟨⟨hgl1, by rw [World.cell?_of_block (w := w) (by exact hblk)]; exact HG.out.ts, fun i hi => by rw [World.cell?_of_block (w := w) (by exact hblk)]; exact HG.out.key i hi, by rw [World.cell?_of_block (w := w) (by exact hblk)]; exact HG.out.pre, fun j => by rw [World.frozen?_of_block (w := w) (by exact hblk)]; exact HG.out.fz j⟩⟩
    have hgt : Hid (∀ j, w1.cell? ⟨g, j, none⟩ = w.cell? ⟨g, j, none⟩) := ⟨fun j => World.cell?_of_block (w := w) (by exact hblk)⟩
    obtain ⟨v0, hv0⟩ := Option.isSome_iff_exists.1 HG1.out.ts
    have fz0 := HG1.out.fz 0
    have HQ1 : Hid (Fq T b g 5 w w1) := ⟨hfk1.q (by omega) hT hgb hgl⟩
    have H1 := hide hst1
    clear hblk hfk1 hst1 HC4
    obtain ⟨base, off, q1, q2, q3, q4⟩ := HR.out.off _ _ H1.out
    have hbig := HR.out.big
    by_cases t0 : t = 0
    · have t0' : (t : Int) = 0 := by omega
      go_wp2_with fail
      obtain ⟨W3, hW3⟩ : ∃ W3, W3 = (w1.setCell ⟨g, 0, none⟩ (.int .u64 18446744073709551615)).setCell ⟨b, 4, none⟩ (.int .u64 18446744073709551615) := ⟨_, rfl⟩
      rw [← hW3]
      have hst3 : St W3 (o + vlen t) := by rw [hW3]; exact HR.out.other _ _ _ _ _ (HR.out.other _ _ _ _ _ H1.out hT (Or.inl hgb)) hTb (Or.inr (by omega))
      have HQ3 : Hid (Fq T b g 5 w W3) := ⟨by rw [hW3]; exact HQ1.out.trans ((Fq.setG hgb 0 _).trans (Fq.setB hgb 4 (by omega) _))⟩
      have hg3 : ∀ j, j ≠ 0 → W3.cell? ⟨g, j, none⟩ = w.cell? ⟨g, j, none⟩ := fun j hj => by rw [hW3, World.cell?_setCell_other _ _ _ _ (by intro e; injection e with e1 _ _; exact hgb e1.symm), World.cell?_setCell_other _ _ _ _ (by intro e; injection e with _ e2 _; exact hj e2.symm)]; exact hgt.out j
      have hg30 : W3.cell? ⟨g, 0, none⟩ = some (.int .u64 18446744073709551615) := by rw [hW3, World.cell?_setCell_other _ _ _ _ (by intro e; injection e with e1 _ _; exact hgb e1.symm)]; exact World.cell?_setCell_same _ _ _ hv0
      have hb34 : W3.cell? ⟨b, 4, none⟩ = some (.int .u64 18446744073709551615) := by rw [hW3]; exact World.cell?_setCell_same _ _ _ (by rw [World.cell?_setCell_other _ _ _ _ (by intro e; injection e with e1 _ _; exact hgb e1)]; exact c4)
      have hg3z : ∀ j, W3.frozen? ⟨g, j, none⟩ = false := fun j => by rw [HQ3.out.gfz]; exact HG.out.fz j
      have hgl3 : g < W3.heap.size := Nat.lt_of_lt_of_le hgl HQ3.out.size
      have HG3 := hide (And.intro hg3 (And.intro hg30 (And.intro hb34 hg3z)))
      clear hv0 fz0 c4 f4 hW3 q1 q2 q3 q4 hg3 hg30 hb34 hg3z base off v0 hgt HG1 HQ1 H1
      refine (rvarint HR.out m _ _ (fun h => HEN.out (by omega)) (by omega) hk1 HE.out.2.1 hst3).mono ?_
      rintro e w4 (⟨hk4, rfl, hst4, hfk4⟩ | ⟨hk4, pb, rfl, hpb, hst4, hfk4⟩)
      · obtain ⟨v33, hv33⟩ := Option.isSome_iff_exists.1 HG.out.pre
        have hblk4 : w4.heap[g]? = W3.heap[g]? := hfk4.block g hgl3 hT hgb
        have hc4 : ∀ j, w4.cell? ⟨g, j, none⟩ = W3.cell? ⟨g, j, none⟩ := fun j => World.cell?_of_block (w := W3) (by exact hblk4)
        have hv33' : w4.cell? ⟨g, 33, none⟩ = some v33 := by rw [hc4, HG3.out.1 33 (by omega)]; exact hv33
        have hf33 : w4.frozen? ⟨g, 33, none⟩ = false := by rw [World.frozen?_of_block (w := W3) (by exact hblk4)]; exact HG3.out.2.2.2 33
        have hfz4 : Hid (∀ j, w4.frozen? ⟨g, j, none⟩ = W3.frozen? ⟨g, j, none⟩) := ⟨fun j => World.frozen?_of_block (w := W3) (by exact hblk4)⟩
        have hmw := wrap_in (m : Int) (by omega) (by omega)
        have hm32 : ¬ (32 : Int) < m := by omega
        have hm33 : (m : Int) ≤ 32 := by omega
        have hbl4 := HR.out.lt _ _ hst4
        have HC4 := hide hc4
        have H4 := hide (And.intro hst4 hfk4)
        clear hst4 hfk4 hblk4 hc4
        obtain ⟨W5, hW5⟩ : ∃ W5, W5 = w4.setCell ⟨g, 33, none⟩ (.int .i64 m) := ⟨_, rfl⟩
        have hst5 : St W5 (o + vlen t + vlen m) := by rw [hW5]; exact HR.out.other _ _ _ _ _ H4.out.1 hT (Or.inl hgb)
        have hg5 : ∀ j, j ≠ 33 → W5.cell? ⟨g, j, none⟩ = W3.cell? ⟨g, j, none⟩ := fun j hj => by rw [hW5, World.cell?_setCell_other _ _ _ _ (by intro e; injection e with _ e2 _; exact hj e2.symm)]; exact HC4.out j
        have hg533 : W5.cell? ⟨g, 33, none⟩ = some (.int .i64 m) := by rw [hW5]; exact World.cell?_setCell_same _ _ _ hv33'
        have hgz5 : ∀ j, W5.frozen? ⟨g, j, none⟩ = false := fun j => by rw [hW5, World.frozen?_setCell, hfz4.out]; exact HG3.out.2.2.2 j
        have HQ5 : Hid (Fq T b g 5 W3 W5) := ⟨by rw [hW5]; exact (H4.out.2.q (by omega) hT hgb hgl3).trans (Fq.setG hgb 33 _)⟩
        have hgl5 : g < W5.heap.size := Nat.lt_of_lt_of_le hgl3 HQ5.out.size
        have hb54 : Hid (W5.cell? ⟨b, 4, none⟩ = some (.int .u64 18446744073709551615)) := ⟨by rw [hW5, World.cell?_setCell_other _ _ _ _ (by intro e; injection e with e1 _ _; exact hgb e1), H4.out.2.cell 4 (by omega)]; exact HG3.out.2.2.1⟩
        have HG5 := hide (And.intro hg5 hgz5)
        clear hg5 hgz5
        have HW5 := hide hW5
        clear hW5
        go_upto_region 16 with fail
        rw [← HW5.out]
        clear HW5 hv33' hf33 HC4 hfz4 H4
        have hbd : Below W5.heap.size W5 W5.drew := (Below.refl _ _).drew
        have hk5 : ∀ i, i < 32 → W5.cell? ⟨g, 1 + i, none⟩ = some (.int .u8 0) := fun i hi => by rw [HG5.out.1 _ (by omega), HG3.out.1 _ (by omega)]; exact HG.out.key i hi
        have hcall : Calls Ybaf.prog 15 #[.pointer (some ⟨b, 0, none⟩), .int .i64 m, .slice (some ⟨g, 1, none⟩) m 32, .string ⟨#[73, 68, 32, 112, 114, 101, 102, 105, 120]⟩] W5.drew (fun e w' => ∃ v, e = .returned v ∧ Hid (BndPost T b g k o t m last f St w (.returned v) w')) := (rbytes HR.out F g 1 m 32 (o + vlen t + vlen m) ⟨#[73, 68, 32, 112, 114, 101, 102, 105, 120]⟩ W5.drew (fun h => HEN.out (by omega)) (by show F.answers W5.tape; rw [HQ5.out.tape, HQ3.out.tape]; exact HF.out) hk4 hm (by omega) hT hgb (fun j hj => by show (W5.cell? _).isSome = true; rw [hk5 j (by omega)]; rfl) (fun j hj => HG5.out.2 _) hgl5 (HR.out.below _ _ _ hst5 hbd)).mono (by
          rintro e w6 (⟨hk6, rfl, hst6, hfk6, hgb6⟩ | ⟨hk6, pb, r, rfl, hpb, hst6, hfk6, hgb6⟩)
          · refine ⟨_, rfl, ⟨Or.inl ⟨hk6, Or.inl t0, rfl, hst6, fun j v hv => ?_, ?_, (HQ3.out.trans HQ5.out).trans ((Fq.of_below hbd (HR.out.lt _ _ hst5) hgl5).trans (hfk6.qg (by omega) hgb6.frz)), fun j hj => ?_⟩⟩⟩
            · obtain ⟨hj, rfl⟩ := bnd_get hv
              by_cases e0 : j = 0
              · subst e0
                rw [hgb6.out 0 (by omega)]
                show W5.cell? _ = _
                rw [HG5.out.1 0 (by omega), HG3.out.2.1, if_pos rfl]
                unfold tsv; rw [if_pos t0]; rfl
              · by_cases e33 : j = 33
                · subst e33
                  rw [hgb6.out 33 (by omega)]
                  exact hg533
                · rw [if_neg e0, if_neg e33]
                  by_cases hjm : j - 1 < m
                  · rw [if_pos hjm]
                    have := hgb6.done (j - 1) hjm
                    rw [show 1 + (j - 1) = j by omega, HE.out.2.2 _ hjm (by omega)] at this
                    exact this
                  · rw [if_neg hjm, hgb6.out j (by omega)]
                    have := hk5 (j - 1) (by omega)
                    rw [show 1 + (j - 1) = j by omega] at this
                    exact this
            · rw [hfk6.cell 4 (by omega)]
              show W5.cell? _ = _
              rw [hb54.out]
              unfold tsv; rw [if_pos t0]; rfl
            · rw [hgb6.out j (by omega)]
              show W5.cell? _ = _
              rw [HG5.out.1 j (by omega), HG3.out.1 j (by omega)]
          · refine ⟨_, rfl, ⟨Or.inr ⟨Or.inl hk6, pb, o + vlen t + vlen m, k, rfl, hpb, hk4, hst6, (HQ3.out.trans HQ5.out).trans ((Fq.of_below hbd (HR.out.lt _ _ hst5) hgl5).trans (hfk6.qg (by omega) hgb6.frz)), fun h => by omega⟩⟩⟩)
        clear hk5 hbd HG5 HG3 HQ5 HQ3 hb54 HR HE HF HG HS hst3 hst5
        go_wp2_with fail
        go_region_with (go_at_call 15; refine hcall.mono ?_; rintro e w6 ⟨v, rfl, hQ⟩)
        all_goals (clear hcall; go_wp2; go_ret; exact hQ.out)
      · go_wp2
        go_ret
        exact Or.inr ⟨Or.inl (by omega), pb, k, k, rfl, hpb, Nat.le_refl _, hst4, HQ3.out.trans (hfk4.q (by omega) hT hgb hgl3), fun h => by omega⟩
    · by_cases hts : t - 1 < 18446744073709551615 - last
      · have hw1 := wrapU ((t : Int) - 1) (by omega) (by omega)
        have hw2 := wrapU (18446744073709551615 - (last : Int)) (by omega) (by omega)
        have hw3 := wrapU ((last : Int) + t) (by omega) (by omega)
        have hw4 := wrapU ((last : Int) + t - 1) (by omega) (by omega)
        have t0' : ¬ (t : Int) = 0 := by omega
        have HTN : Hid (((last + t - 1 : Nat) : Int) = (last : Int) + t - 1) := ⟨by omega⟩
        have hcmp : ¬ 18446744073709551615 - (last : Int) ≤ (t : Int) - 1 := by omega
        go_wp2_with fail
        obtain ⟨W3, hW3⟩ : ∃ W3, W3 = (w1.setCell ⟨g, 0, none⟩ (.int .u64 ((last : Int) + t - 1))).setCell ⟨b, 4, none⟩ (.int .u64 ((last : Int) + t - 1)) := ⟨_, rfl⟩
        rw [← hW3]
        have hst3 : St W3 (o + vlen t) := by rw [hW3]; exact HR.out.other _ _ _ _ _ (HR.out.other _ _ _ _ _ H1.out hT (Or.inl hgb)) hTb (Or.inr (by omega))
        have HQ3 : Hid (Fq T b g 5 w W3) := ⟨by rw [hW3]; exact HQ1.out.trans ((Fq.setG hgb 0 _).trans (Fq.setB hgb 4 (by omega) _))⟩
        have hg3 : ∀ j, j ≠ 0 → W3.cell? ⟨g, j, none⟩ = w.cell? ⟨g, j, none⟩ := fun j hj => by rw [hW3, World.cell?_setCell_other _ _ _ _ (by intro e; injection e with e1 _ _; exact hgb e1.symm), World.cell?_setCell_other _ _ _ _ (by intro e; injection e with _ e2 _; exact hj e2.symm)]; exact hgt.out j
        have hg30 : W3.cell? ⟨g, 0, none⟩ = some (.int .u64 ((last : Int) + t - 1)) := by rw [hW3, World.cell?_setCell_other _ _ _ _ (by intro e; injection e with e1 _ _; exact hgb e1.symm)]; exact World.cell?_setCell_same _ _ _ hv0
        have hb34 : W3.cell? ⟨b, 4, none⟩ = some (.int .u64 ((last : Int) + t - 1)) := by rw [hW3]; exact World.cell?_setCell_same _ _ _ (by rw [World.cell?_setCell_other _ _ _ _ (by intro e; injection e with e1 _ _; exact hgb e1)]; exact c4)
        have hg3z : ∀ j, W3.frozen? ⟨g, j, none⟩ = false := fun j => by rw [HQ3.out.gfz]; exact HG.out.fz j
        have hgl3 : g < W3.heap.size := Nat.lt_of_lt_of_le hgl HQ3.out.size
        have HG3 := hide (And.intro hg3 (And.intro hg30 (And.intro hb34 hg3z)))
        clear hv0 fz0 c4 f4 hW3 q1 q2 q3 q4 hg3 hg30 hb34 hg3z base off v0 hgt HG1 HQ1 H1
        refine (rvarint HR.out m _ _ (fun h => HEN.out (by omega)) (by omega) hk1 HE.out.2.1 hst3).mono ?_
        rintro e w4 (⟨hk4, rfl, hst4, hfk4⟩ | ⟨hk4, pb, rfl, hpb, hst4, hfk4⟩)
        · obtain ⟨v33, hv33⟩ := Option.isSome_iff_exists.1 HG.out.pre
          have hblk4 : w4.heap[g]? = W3.heap[g]? := hfk4.block g hgl3 hT hgb
          have hc4 : ∀ j, w4.cell? ⟨g, j, none⟩ = W3.cell? ⟨g, j, none⟩ := fun j => World.cell?_of_block (w := W3) (by exact hblk4)
          have hv33' : w4.cell? ⟨g, 33, none⟩ = some v33 := by rw [hc4, HG3.out.1 33 (by omega)]; exact hv33
          have hf33 : w4.frozen? ⟨g, 33, none⟩ = false := by rw [World.frozen?_of_block (w := W3) (by exact hblk4)]; exact HG3.out.2.2.2 33
          have hfz4 : Hid (∀ j, w4.frozen? ⟨g, j, none⟩ = W3.frozen? ⟨g, j, none⟩) := ⟨fun j => World.frozen?_of_block (w := W3) (by exact hblk4)⟩
          have hmw := wrap_in (m : Int) (by omega) (by omega)
          have hm32 : ¬ (32 : Int) < m := by omega
          have hm33 : (m : Int) ≤ 32 := by omega
          have hbl4 := HR.out.lt _ _ hst4
          have HC4 := hide hc4
          have H4 := hide (And.intro hst4 hfk4)
          clear hst4 hfk4 hblk4 hc4
          obtain ⟨W5, hW5⟩ : ∃ W5, W5 = w4.setCell ⟨g, 33, none⟩ (.int .i64 m) := ⟨_, rfl⟩
          have hst5 : St W5 (o + vlen t + vlen m) := by rw [hW5]; exact HR.out.other _ _ _ _ _ H4.out.1 hT (Or.inl hgb)
          have hg5 : ∀ j, j ≠ 33 → W5.cell? ⟨g, j, none⟩ = W3.cell? ⟨g, j, none⟩ := fun j hj => by rw [hW5, World.cell?_setCell_other _ _ _ _ (by intro e; injection e with _ e2 _; exact hj e2.symm)]; exact HC4.out j
          have hg533 : W5.cell? ⟨g, 33, none⟩ = some (.int .i64 m) := by rw [hW5]; exact World.cell?_setCell_same _ _ _ hv33'
          have hgz5 : ∀ j, W5.frozen? ⟨g, j, none⟩ = false := fun j => by rw [hW5, World.frozen?_setCell, hfz4.out]; exact HG3.out.2.2.2 j
          have HQ5 : Hid (Fq T b g 5 W3 W5) := ⟨by rw [hW5]; exact (H4.out.2.q (by omega) hT hgb hgl3).trans (Fq.setG hgb 33 _)⟩
          have hgl5 : g < W5.heap.size := Nat.lt_of_lt_of_le hgl3 HQ5.out.size
          have hb54 : Hid (W5.cell? ⟨b, 4, none⟩ = some (.int .u64 ((last : Int) + t - 1))) := ⟨by rw [hW5, World.cell?_setCell_other _ _ _ _ (by intro e; injection e with e1 _ _; exact hgb e1), H4.out.2.cell 4 (by omega)]; exact HG3.out.2.2.1⟩
          have HG5 := hide (And.intro hg5 hgz5)
          clear hg5 hgz5
          have HW5 := hide hW5
          clear hW5
          go_upto_region 16 with fail
          rw [← HW5.out]
          clear HW5 hv33' hf33 HC4 hfz4 H4
          have hbd : Below W5.heap.size W5 W5.drew := (Below.refl _ _).drew
          have hk5 : ∀ i, i < 32 → W5.cell? ⟨g, 1 + i, none⟩ = some (.int .u8 0) := fun i hi => by rw [HG5.out.1 _ (by omega), HG3.out.1 _ (by omega)]; exact HG.out.key i hi
          have hcall : Calls Ybaf.prog 15 #[.pointer (some ⟨b, 0, none⟩), .int .i64 m, .slice (some ⟨g, 1, none⟩) m 32, .string ⟨#[73, 68, 32, 112, 114, 101, 102, 105, 120]⟩] W5.drew (fun e w' => ∃ v, e = .returned v ∧ Hid (BndPost T b g k o t m last f St w (.returned v) w')) := (rbytes HR.out F g 1 m 32 (o + vlen t + vlen m) ⟨#[73, 68, 32, 112, 114, 101, 102, 105, 120]⟩ W5.drew (fun h => HEN.out (by omega)) (by show F.answers W5.tape; rw [HQ5.out.tape, HQ3.out.tape]; exact HF.out) hk4 hm (by omega) hT hgb (fun j hj => by show (W5.cell? _).isSome = true; rw [hk5 j (by omega)]; rfl) (fun j hj => HG5.out.2 _) hgl5 (HR.out.below _ _ _ hst5 hbd)).mono (by
            rintro e w6 (⟨hk6, rfl, hst6, hfk6, hgb6⟩ | ⟨hk6, pb, r, rfl, hpb, hst6, hfk6, hgb6⟩)
            · refine ⟨_, rfl, ⟨Or.inl ⟨hk6, Or.inr hts, rfl, hst6, fun j v hv => ?_, ?_, (HQ3.out.trans HQ5.out).trans ((Fq.of_below hbd (HR.out.lt _ _ hst5) hgl5).trans (hfk6.qg (by omega) hgb6.frz)), fun j hj => ?_⟩⟩⟩
              · obtain ⟨hj, rfl⟩ := bnd_get hv
                by_cases e0 : j = 0
                · subst e0
                  rw [hgb6.out 0 (by omega)]
                  show W5.cell? _ = _
                  rw [HG5.out.1 0 (by omega), HG3.out.2.1, if_pos rfl]
                  unfold tsv; rw [if_neg t0, HTN.out]
                · by_cases e33 : j = 33
                  · subst e33
                    rw [hgb6.out 33 (by omega)]
                    exact hg533
                  · rw [if_neg e0, if_neg e33]
                    by_cases hjm : j - 1 < m
                    · rw [if_pos hjm]
                      have := hgb6.done (j - 1) hjm
                      rw [show 1 + (j - 1) = j by omega, HE.out.2.2 _ hjm (by omega)] at this
                      exact this
                    · rw [if_neg hjm, hgb6.out j (by omega)]
                      have := hk5 (j - 1) (by omega)
                      rw [show 1 + (j - 1) = j by omega] at this
                      exact this
              · rw [hfk6.cell 4 (by omega)]
                show W5.cell? _ = _
                rw [hb54.out]
                unfold tsv; rw [if_neg t0, HTN.out]
              · rw [hgb6.out j (by omega)]
                show W5.cell? _ = _
                rw [HG5.out.1 j (by omega), HG3.out.1 j (by omega)]
            · refine ⟨_, rfl, ⟨Or.inr ⟨Or.inl hk6, pb, o + vlen t + vlen m, k, rfl, hpb, hk4, hst6, (HQ3.out.trans HQ5.out).trans ((Fq.of_below hbd (HR.out.lt _ _ hst5) hgl5).trans (hfk6.qg (by omega) hgb6.frz)), fun h => by omega⟩⟩⟩)
          clear hk5 hbd HG5 HG3 HQ5 HQ3 hb54 HR HE HF HG HS hst3 hst5
          go_wp2_with fail
          go_region_with (go_at_call 15; refine hcall.mono ?_; rintro e w6 ⟨v, rfl, hQ⟩)
          all_goals (clear hcall; go_wp2; go_ret; exact hQ.out)
        · go_wp2
          go_ret
          exact Or.inr ⟨Or.inl (by omega), pb, k, k, rfl, hpb, Nat.le_refl _, hst4, HQ3.out.trans (hfk4.q (by omega) hT hgb hgl3), fun h => by omega⟩
      · have hw1 := wrapU ((t : Int) - 1) (by omega) (by omega)
        have hw2 := wrapU (18446744073709551615 - (last : Int)) (by omega) (by omega)
        have t0' : ¬ (t : Int) = 0 := by omega
        have hcmp : 18446744073709551615 - (last : Int) ≤ (t : Int) - 1 := by omega
        go_wp2_with (first | (go_at_call 11; refine (fail_any b base off _ _ q1 q2 (by omega) (by omega)).mono ?_; rintro e w2 ⟨pb, rfl, hpb, hb2⟩))
        go_ret
        refine Or.inr ⟨Or.inr (by unfold tsOk; omega), pb, o + vlen t, o + vlen t, rfl, by rw [hpb]; congr 2; omega, hk1, HR.out.below _ _ _ H1.out hb2, HQ1.out.trans (Fq.of_below hb2 hbl1 hgl1), fun _ => ⟨rfl, rfl⟩⟩
  · go_wp2
    go_ret
    exact Or.inr ⟨Or.inl (by omega), pb, k, k, rfl, hpb, Nat.le_refl _, hst1, hfk1.q (by omega) hT hgb hgl, fun h => by omega⟩
end Go.Proofs.YbulkcgfiFmt
