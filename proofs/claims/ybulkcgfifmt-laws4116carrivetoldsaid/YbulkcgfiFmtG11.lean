import Derived.Test.YbulkcgfiFmtG10
import Derived.BigQuiet
namespace Go.Proofs.YbulkcgfiFmt
open Go.RowKit Go.Extern.Stop Go.Stop Go.Extern
set_option linter.unusedVariables false
set_option linter.unusedSimpArgs false
/-- How long the range is, the bound being n bytes long. -/
def rlen (n mv cnt : Nat) : Nat := n + vlen mv + (if mv = 1 then 16 else if mv = 2 then vlen cnt + 32 * cnt else 0)
/-- A fresh range in block g. -/
structure RG0 (w : World) (g : Nat) : Prop where
  bd : G0 w g
  mode : (w.cell? ⟨g, 34, none⟩).isSome = true
  fp : ∀ i, i < 16 → w.cell? ⟨g, 35 + i, none⟩ = some (.int .u8 0)
  ids : w.cell? ⟨g, 51, none⟩ = some (.slice none 0 0)
  end_ : (w.cell? ⟨g, 52, none⟩).isSome = true
/-- A fresh reader in block b. -/
structure RB0 (w : World) (b last : Nat) : Prop where
  c4 : w.cell? ⟨b, 4, none⟩ = some (.int .u64 last)
  up : ∀ j, j < 34 → (w.cell? ⟨b, 5 + j, none⟩).isSome = true
  rg : w.cell? ⟨b, 39, none⟩ = some (.int .i64 0)
  fz : ∀ j, w.frozen? ⟨b, j, none⟩ = false
/-- What readRange leaves behind. -/
def RgPost (T : Nat → Prop) (b g k o t m last mv cnt : Nat) (f fp : Nat → Nat) (St : World → Nat → Prop) (w : World) (e : Ending) (w' : World) : Prop :=
  (o + rlen (vlen t + vlen m + m) mv cnt ≤ k ∧ tsOk t last ∧ mv < 3 ∧ e = .returned .nilIface ∧ St w' (o + rlen (vlen t + vlen m + m) mv cnt) ∧ BndAt w' g (tsv t last) f m ∧ w'.cell? ⟨g, 34, none⟩ = some (.int .u64 mv) ∧ (∀ i, i < 16 → w'.cell? ⟨g, 35 + i, none⟩ = some (.int .u8 (if mv = 1 then fp i else 0))) ∧ w'.cell? ⟨g, 51, none⟩ = some (.slice none 0 0) ∧ w'.cell? ⟨g, 52, none⟩ = some (.int .i64 ((o + rlen (vlen t + vlen m + m) mv cnt : Nat) : Int)) ∧ w'.cell? ⟨b, 39, none⟩ = some (.int .i64 1) ∧ Fq T b g 40 w w') ∨
  (∃ pb off o', e = .returned (.iface 46 (.pointer (some ⟨pb, 0, none⟩))) ∧ w'.cell? ⟨pb, 0, none⟩ = some (.int .i64 ((off : Nat) : Int)) ∧ off ≤ k ∧ St w' o' ∧ Fq T b g 40 w w' ∧ (o + rlen (vlen t + vlen m + m) mv cnt ≤ k → (¬ tsOk t last ∧ off = o + vlen t ∧ o' = o + vlen t) ∨ (tsOk t last ∧ 3 ≤ mv ∧ off = o + rlen (vlen t + vlen m + m) mv cnt ∧ o' = o + rlen (vlen t + vlen m + m) mv cnt ∧ BndAt w' g (tsv t last) f m ∧ w'.cell? ⟨g, 34, none⟩ = some (.int .u64 mv) ∧ w'.cell? ⟨b, 39, none⟩ = some (.int .i64 1))))
theorem Rdr.othersB {en : Prop} {T : Nat → Prop} {b k : Nat} {E : Nat → Nat} {St Sw : World → Nat → Prop} (R : Rdr en T b k E St Sw) (hT : ¬ T b) (p : Nat) : ∀ (vs : List Value) (o : Nat) (w : World), 4 ≤ o → St w p → St (w.setCells b o vs) p
  | [], _, _, _, h => h
  | v :: r, o, w, ho, h => by rw [World.setCells]; exact Rdr.othersB R hT p r (o + 1) _ (by omega) (R.other _ _ _ _ _ h hT (Or.inr ho))
theorem Fq.setsB {T : Nat → Prop} {b g j0 : Nat} (hgb : g ≠ b) : ∀ (vs : List Value) (o : Nat) (w : World), 4 ≤ o → o + vs.length ≤ j0 → Fq T b g j0 w (w.setCells b o vs)
  | [], _, _, _, _ => Fq.refl _ _ _ _ _
  | v :: r, o, w, h1, h2 => by rw [World.setCells]; simp only [List.length_cons] at h2; exact (Fq.setB hgb o (by omega) v).trans (Fq.setsB hgb r (o + 1) _ (by omega) (by omega))
/-- The world ahead of 'rg.end = r.offset()'. -/
structure RGW (T : Nat → Prop) (b g t m last mv : Nat) (f fp : Nat → Nat) (St : World → Nat → Prop) (w W : World) (p : Nat) : Prop where
  st : St W p
  bd : BndAt W g (tsv t last) f m
  md : W.cell? ⟨g, 34, none⟩ = some (.int .u64 mv)
  fpc : ∀ i, i < 16 → W.cell? ⟨g, 35 + i, none⟩ = some (.int .u8 (if mv = 1 then fp i else 0))
  ids : W.cell? ⟨g, 51, none⟩ = some (.slice none 0 0)
  en : ∃ v, W.cell? ⟨g, 52, none⟩ = some v
  rg : W.cell? ⟨b, 39, none⟩ = some (.int .i64 1)
  fq : Fq T b g 40 w W
  fz : ∀ j, W.frozen? ⟨g, j, none⟩ = false
  lt : g < W.heap.size
theorem RGW.fin {en : Prop} {T : Nat → Prop} {b k : Nat} {E : Nat → Nat} {St Sw : World → Nat → Prop} (R : Rdr en T b k E St Sw) {g o t m last mv cnt p : Nat} {f fp : Nat → Nat} {w W w7 : World} (h : RGW T b g t m last mv f fp St w W p) (hb : Below W.heap.size W w7) (hp : p = o + rlen (vlen t + vlen m + m) mv cnt) (hk : p ≤ k) (hts : tsOk t last) (hmv : mv < 3) (hT : ¬ T g) (hgb : g ≠ b) (x : Int) (hx : x = p) :
    RgPost T b g k o t m last mv cnt f fp St w (.returned .nilIface) (w7.setCell ⟨g, 52, none⟩ (.int .i64 x)) := by
  have hbl := R.lt _ _ h.st
  have hc : ∀ j, j ≠ 52 → (w7.setCell ⟨g, 52, none⟩ (.int .i64 x)).cell? ⟨g, j, none⟩ = W.cell? ⟨g, j, none⟩ := fun j hj => by
    rw [World.cell?_setCell_other _ _ _ _ (by intro e; injection e with _ e2 _; exact hj e2.symm)]; exact hb.cell (by exact h.lt)
  obtain ⟨v, hv⟩ := h.en
  subst hp; subst hx
  refine Or.inl ⟨hk, hts, hmv, rfl, R.other _ _ _ _ _ (R.below _ _ _ h.st hb) hT (Or.inl hgb), fun j v hj => ?_, ?_, fun i hi => ?_, ?_, ?_, ?_, h.fq.trans ((Fq.of_below hb hbl h.lt).trans (Fq.setG hgb 52 _))⟩
  · rw [hc j (by have := (bnd_get hj).1; omega)]; exact h.bd j v hj
  · rw [hc _ (by omega)]; exact h.md
  · rw [hc _ (by omega)]; exact h.fpc i hi
  · rw [hc _ (by omega)]; exact h.ids
  · exact World.cell?_setCell_same _ _ _ (by rw [hb.cell (by exact h.lt)]; exact hv)
  · rw [World.cell?_setCell_other _ _ _ _ (by intro e; injection e with e1 _ _; exact hgb e1), hb.cell (by exact hbl)]; exact h.rg
set_option maxRecDepth 100000 in
set_option maxHeartbeats 1000000 in
/-- messageReader.readRange, of a first range -/
theorem rrange {en : Prop} {T : Nat → Prop} {b k : Nat} {E : Nat → Nat} {St Sw : World → Nat → Prop} (R : Rdr en T b k E St Sw) (F : Interp) (g t m o last mv cnt rm : Nat) (f fp : Nat → Nat) (w : World) (hen : k < o + rlen (vlen t + vlen m + m) mv cnt → en) (hF : F.answers w.tape) (ht : t < 18446744073709551616) (hm : m ≤ 32) (hlast : last < 18446744073709551616) (hmv : mv < 18446744073709551616) (hcnt : cnt ≤ 100000) (hrm : rm ≤ 10000000) (hok : o ≤ k)
    (hE1 : At E k o (vlen t) fun i => vb t (vlen t - 1 - i)) (hE2 : At E k (o + vlen t) (vlen m) fun i => vb m (vlen m - 1 - i)) (hE3 : At E k (o + vlen t + vlen m) m f)
    (hE4 : At E k (o + vlen t + vlen m + m) (vlen mv) fun i => vb mv (vlen mv - 1 - i)) (hE5 : mv = 1 → At E k (o + vlen t + vlen m + m + vlen mv) 16 fp) (hE6 : mv = 2 → At E k (o + vlen t + vlen m + m + vlen mv) (vlen cnt) fun i => vb cnt (vlen cnt - 1 - i))
    (hroom : ∀ w o, St w o → Calls Ybaf.prog 16 #[.pointer (some ⟨b, 0, none⟩)] w fun e w' => e = .returned (.int .i64 ((rm - o : Nat) : Int)) ∧ Below w.heap.size w w')
    (hsrc : mv = 2 → (rm - (o + vlen t + vlen m + m + vlen mv + vlen cnt)) / 32 < cnt → k < o + rlen (vlen t + vlen m + m) mv cnt ∧ w.cell? ⟨b, 3, none⟩ = some (.pointer none))
    (hids : mv = 2 → o + vlen t + vlen m + m + vlen mv + vlen cnt ≤ k → cnt ≤ (rm - (o + vlen t + vlen m + m + vlen mv + vlen cnt)) / 32 → o + rlen (vlen t + vlen m + m) mv cnt ≤ k ∧ ∀ w, F.answers w.tape → St w (o + vlen t + vlen m + m + vlen mv + vlen cnt) → Calls Ybaf.prog 19 #[.pointer (some ⟨b, 0, none⟩), .int .i64 ((32 * cnt : Nat) : Int)] w fun e w' => e = .returned (.tuple #[.slice none 0 0, .nilIface]) ∧ St w' (o + vlen t + vlen m + m + vlen mv + vlen cnt + 32 * cnt) ∧ Fk T b w w')
    (hT : ¬ T g) (hTb : ¬ T b) (hgb : g ≠ b) (hG : RG0 w g) (hB : RB0 w b last) (hs : St w o) :
    Calls Ybaf.prog 6 #[.pointer (some ⟨b, 0, none⟩), .pointer (some ⟨g, 0, none⟩)] w (RgPost T b g k o t m last mv cnt f fp St w) := by
  have HR := hide R
  have HEN := hide hen
  have HF := hide hF
  have HE := hide (And.intro hE1 (And.intro hE2 (And.intro hE3 (And.intro hE4 (And.intro hE5 hE6)))))
  have HRM := hide (And.intro hroom (And.intro hsrc hids))
  have HG := hide hG
  have HS := hide hs
  have HB := hide hB
  clear hen R hF hE1 hE2 hE3 hE4 hE5 hE6 hroom hsrc hids hG hs hB
  have b39 := HB.out.rg
  obtain ⟨base, off, q1, q2, q3, q4⟩ := HR.out.off _ _ HS.out
  have hbig := HR.out.big
  have hbl := HR.out.lt _ _ HS.out
  have hgl := HG.out.bd.lt
  go_enter Ybaf.func6, Ybaf.ntmps6
  go_wp2_with (first | (go_at_call 8; refine (offset_any b base off _ q1 q2 (by omega) (by omega)).mono ?_; rintro e w1 ⟨rfl, hb1⟩))
  have HG1 : Hid (G0 w1 g) := by
    have hblk := hb1.block g hgl
    exact ⟨⟨Nat.lt_of_lt_of_le hgl hb1.size, by rw [World.cell?_of_block (w := w) (by exact hblk)]; exact HG.out.bd.ts, fun i hi => by rw [World.cell?_of_block (w := w) (by exact hblk)]; exact HG.out.bd.key i hi, by rw [World.cell?_of_block (w := w) (by exact hblk)]; exact HG.out.bd.pre, fun j => by rw [World.frozen?_of_block (w := w) (by exact hblk)]; exact HG.out.bd.fz j⟩⟩
  have HQ1 : Hid (Fq T b g 5 w w1) := ⟨Fq.of_below hb1 hbl hgl⟩
  have hst1 := HR.out.below _ _ _ HS.out hb1
  have hgc1 : Hid (∀ j, w1.cell? ⟨g, j, none⟩ = w.cell? ⟨g, j, none⟩) := ⟨fun j => World.cell?_of_block (w := w) (by exact hb1.block g hgl)⟩
  refine (rbound HR.out F g t m o last f w1 (fun h => HEN.out (by unfold rlen; omega)) (by rw [HQ1.out.tape]; exact HF.out) ht hm hlast hok HE.out.1 HE.out.2.1 HE.out.2.2.1 hT hTb hgb HG1.out (by rw [hb1.cell (by exact hbl)]; exact HB.out.c4) (by rw [HQ1.out.frz]; exact HB.out.fz 4) hst1).mono ?_
  clear HG1 hst1 hb1 b39 q1 q2
  rintro e w2 (⟨hk2, hts, rfl, hst2, hbd2, hb24, hfq2, hgc2⟩ | ⟨hk2, pb, off', o', rfl, hpb, hle, hst2, hfq2, hpos⟩)
  · have HQ2 : Hid (Fq T b g 5 w w2) := ⟨HQ1.out.trans hfq2⟩
    have b39 : w2.cell? ⟨b, 39, none⟩ = some (.int .i64 0) := by rw [HQ2.out.cell 39 (by omega)]; exact HB.out.rg
    have f39 : w2.frozen? ⟨b, 39, none⟩ = false := by rw [HQ2.out.frz]; exact HB.out.fz 39
    have hbl2 := HR.out.lt _ _ hst2
    have hgl2 : g < w2.heap.size := Nat.lt_of_lt_of_le hgl HQ2.out.size
    have hgr2 : Hid (∀ j, 34 ≤ j → w2.cell? ⟨g, j, none⟩ = w.cell? ⟨g, j, none⟩) := ⟨fun j hj => (hgc2 j hj).trans (hgc1.out j)⟩
    have HBD := hide hbd2
    have H2 := hide hst2
    clear hb24 hfq2 hgc2 hbd2 hst2 hgc1 HQ1
    have hd0 : decide ((0 : Int) < 0) = false := rfl
    go_wp2_with fail
    go_quiet (fail)
    go_upto_region 9 with fail
    obtain ⟨W2, hW2⟩ : ∃ W2, W2 = w2.drewN nq := ⟨_, rfl⟩
    rw [← hW2]
    obtain ⟨C, hC⟩ : ∃ C, C = bnd (tsv t last) f m := ⟨_, rfl⟩
    have hbw : Below w2.heap.size w2 W2 := by rw [hW2]; exact bdrewN (Below.refl _ _)
    have hbc : ∀ j, W2.cell? ⟨b, j, none⟩ = w2.cell? ⟨b, j, none⟩ := fun j => by rw [hW2]; rfl
    have hgc : ∀ j, W2.cell? ⟨g, j, none⟩ = w2.cell? ⟨g, j, none⟩ := fun j => by rw [hW2]; rfl
    have hbz : ∀ j, W2.frozen? ⟨b, j, none⟩ = false := fun j => by rw [hW2]; show w2.frozen? _ = _; rw [HQ2.out.frz]; exact HB.out.fz j
    have hCs : C.size = 34 := by rw [hC]; exact bnd_size _ _ _
    have hload : (loadVar 28 ⟨g, 0, none⟩).run Ybaf.prog W2 = .ok (.agg C) W2 := load_agg W2 28 g 0 C _ Ybaf.underlying28 rfl (by rw [hCs]; exact Ybaf.size28) (fun j v hv => by rw [hC] at hv; rw [Nat.zero_add, hgc]; exact HBD.out j v hv)
    have hstore : (storeVar 28 ⟨b, 5, none⟩ (.agg C)).run Ybaf.prog W2 = .ok () (W2.setCells b 5 C.toList) := store_agg W2 28 b 5 C (by rw [hCs]; exact Ybaf.size28) (fun j hj => by rw [hCs] at hj; rw [hbc, HQ2.out.cell _ (by omega)]; exact HB.out.up j hj) (fun j _ => hbz _) (by rw [hC]; exact bnd_one _ _ _)
    obtain ⟨W3, hW3⟩ : ∃ W3, W3 = W2.setCells b 5 C.toList := ⟨_, rfl⟩
    rw [← hW3] at hstore
    have hlen : C.toList.length = 34 := by rw [Array.length_toList]; exact hCs
    have c39 : W3.cell? ⟨b, 39, none⟩ = some (.int .i64 0) := by rw [hW3, World.cell?_setCells_out _ _ _ _ _ (fun _ _ => by rw [hlen]; simp only; omega), hbc]; exact b39
    have e39 : W3.frozen? ⟨b, 39, none⟩ = false := by rw [hW3, World.frozen?_setCells]; exact hbz 39
    obtain ⟨W4, hW4⟩ : ∃ W4, W4 = W3.setCell ⟨b, 39, none⟩ (.int .i64 1) := ⟨_, rfl⟩
    have hst4 : St W4 (o + vlen t + vlen m + m) := by rw [hW4, hW3]; exact HR.out.other _ _ _ _ _ (HR.out.othersB hTb _ _ _ _ (by omega) (HR.out.below _ _ _ H2.out hbw)) hTb (Or.inr (by omega))
    have HQ4 : Hid (Fq T b g 40 w W4) := ⟨by rw [hW4, hW3]; exact (HQ2.out.wide (by omega)).trans ((Fq.of_below hbw hbl2 hgl2).trans ((Fq.setsB hgb _ _ _ (by omega) (by rw [hlen]; omega)).trans (Fq.setB hgb 39 (by omega) _)))⟩
    have d39 : Hid (W4.cell? ⟨b, 39, none⟩ = some (.int .i64 1)) := ⟨by rw [hW4]; exact World.cell?_setCell_same _ _ _ c39⟩
    have hg4 : Hid (∀ j, W4.cell? ⟨g, j, none⟩ = w2.cell? ⟨g, j, none⟩) := ⟨fun j => by rw [hW4, hW3, World.cell?_setCell_other _ _ _ _ (by intro e; injection e with e1 _ _; exact hgb e1.symm), World.cell?_setCells_out _ _ _ _ _ (fun e => absurd e (by exact hgb))]; exact hgc j⟩
    have hgl4 : g < W4.heap.size := Nat.lt_of_lt_of_le hgl HQ4.out.size
    have HW4 := hide hW4
    clear hW4 hW3 hW2 hC hbw hbc hgc hbz hCs hlen b39 f39 H2 hd0
    go_wp2_with (first | (refine wpList_load_run rfl 28 (.tmp 61) rfl ⟨g, 0, none⟩ rfl _ hload ?_) | (refine wpList_store_run rfl 28 (.tmp 64) (.tmp 62) rfl ⟨b, 5, none⟩ rfl _ rfl hstore ?_))
    rw [← HW4.out]
    clear HW4 hload hstore c39 e39
    refine (rvarint HR.out mv _ _ (fun h => HEN.out (by unfold rlen; omega)) hmv hk2 HE.out.2.2.2.1 hst4).mono ?_
    clear hst4
    rintro e w5 (⟨hk5, rfl, hst5, hfk5⟩ | ⟨hk5, pb, rfl, hpb, hst5, hfk5⟩)
    · have hblk5 : w5.heap[g]? = W4.heap[g]? := hfk5.block g hgl4 hT hgb
      have hgc5 : ∀ j, w5.cell? ⟨g, j, none⟩ = w2.cell? ⟨g, j, none⟩ := fun j => by rw [World.cell?_of_block (w := W4) (by exact hblk5)]; exact hg4.out j
      obtain ⟨v34, hv34⟩ := Option.isSome_iff_exists.1 HG.out.mode
      have c34 : w5.cell? ⟨g, 34, none⟩ = some v34 := by rw [hgc5, hgr2.out 34 (by omega)]; exact hv34
      have HQ5 : Hid (Fq T b g 40 w w5) := ⟨HQ4.out.trans (hfk5.q (by omega) hT hgb hgl4)⟩
      have e34 : w5.frozen? ⟨g, 34, none⟩ = false := by rw [HQ5.out.gfz]; exact HG.out.bd.fz 34
      obtain ⟨W6, hW6⟩ : ∃ W6, W6 = w5.setCell ⟨g, 34, none⟩ (.int .u64 mv) := ⟨_, rfl⟩
      have hst6 : St W6 (o + vlen t + vlen m + m + vlen mv) := by rw [hW6]; exact HR.out.other _ _ _ _ _ hst5 hT (Or.inl hgb)
      have HQ6 : Hid (Fq T b g 40 w W6) := ⟨by rw [hW6]; exact HQ5.out.trans (Fq.setG hgb 34 _)⟩
      have d34 : W6.cell? ⟨g, 34, none⟩ = some (.int .u64 mv) := by rw [hW6]; exact World.cell?_setCell_same _ _ _ c34
      have hgc6 : ∀ j, j ≠ 34 → W6.cell? ⟨g, j, none⟩ = w2.cell? ⟨g, j, none⟩ := fun j hj => by rw [hW6, World.cell?_setCell_other _ _ _ _ (by intro e; injection e with _ e2 _; exact hj e2.symm)]; exact hgc5 j
      have HBD6 : Hid (BndAt W6 g (tsv t last) f m) := ⟨fun j v hv => by rw [hgc6 j (by have := (bnd_get hv).1; omega)]; exact HBD.out j v hv⟩
      have hfp6 : ∀ i, i < 16 → W6.cell? ⟨g, 35 + i, none⟩ = some (.int .u8 0) := fun i hi => by rw [hgc6 _ (by omega), hgr2.out _ (by omega)]; exact HG.out.fp i hi
      have h51 : W6.cell? ⟨g, 51, none⟩ = some (.slice none 0 0) := by rw [hgc6 _ (by omega), hgr2.out _ (by omega)]; exact HG.out.ids
      obtain ⟨v52, hv52⟩ := Option.isSome_iff_exists.1 HG.out.end_
      have h52 : W6.cell? ⟨g, 52, none⟩ = some v52 := by rw [hgc6 _ (by omega), hgr2.out _ (by omega)]; exact hv52
      have hgz6 : ∀ j, W6.frozen? ⟨g, j, none⟩ = false := fun j => by rw [HQ6.out.gfz]; exact HG.out.bd.fz j
      have h39 : Hid (W6.cell? ⟨b, 39, none⟩ = some (.int .i64 1)) := ⟨by rw [hW6, World.cell?_setCell_other _ _ _ _ (by intro e; injection e with e1 _ _; exact hgb e1), hfk5.cell 39 (by omega)]; exact d39.out⟩
      have hgl6 : g < W6.heap.size := Nat.lt_of_lt_of_le hgl HQ6.out.size
      have hbl6 := HR.out.lt _ _ hst6
      have HW6 := hide hW6
      have H6 := hide (And.intro hst6 (And.intro hfp6 (And.intro hgz6 (And.intro h51 h52))))
      have e52 := hgz6 52
      clear hW6 hst6 hfp6 hgz6 h51 HBD hgr2 hg4 hgc5 hgc6 hblk5 hst5 hfk5 HQ4 HQ5 d39 HQ2 hv34 hv52 HS HB HG h52 e52
      go_upto_region 15 with fail
      rw [← HW6.out]
      clear HW6 c34 e34
      by_cases m3 : 3 ≤ mv
      · as_aux_lemma =>
        have n0 : ¬ (mv : Int) = 0 := by omega
        have n1 : ¬ (mv : Int) = 1 := by omega
        have n2 : ¬ (mv : Int) = 2 := by omega
        obtain ⟨base, off, q1, q2, q3, q4⟩ := HR.out.off _ _ H6.out.1
        have hF6 := answers_open (show F.answers W6.tape by rw [HQ6.out.tape]; exact HF.out)
        have hbb : ∀ o1, Below W6.heap.size W6 (W6.alloc o1).drew := fun o1 => ((Below.refl _ _).alloc (Nat.le_refl _) o1).drew
        go_wp2_with (first | (go_at_call 11; refine (fail_any b base off _ _ (by rw [(hbb _).cell (by exact hbl6)]; exact q1) (by rw [(hbb _).cell (by exact hbl6)]; exact q2) (by omega) (by omega)).mono ?_; rintro e w7 ⟨pb, rfl, hpb, hb7⟩))
        go_ret
        have hb8 : Below W6.heap.size W6 w7 := (hbb _).trans (hb7.mono (hbb _).size)
        have hrl : o + rlen (vlen t + vlen m + m) mv cnt = o + vlen t + vlen m + m + vlen mv := by unfold rlen; rw [if_neg (by omega), if_neg (by omega)]; omega
        refine Or.inr ⟨pb, o + vlen t + vlen m + m + vlen mv, o + vlen t + vlen m + m + vlen mv, rfl, by rw [hpb]; congr 2; omega, hk5, HR.out.below _ _ _ H6.out.1 hb8, HQ6.out.trans (Fq.of_below hb8 hbl6 hgl6), fun _ => Or.inr ⟨hts, m3, hrl.symm, hrl.symm, fun j v hj => ?_, ?_, ?_⟩⟩
        · rw [hb8.cell (by exact hgl6)]; exact HBD6.out j v hj
        · rw [hb8.cell (by exact hgl6)]; exact d34
        · rw [hb8.cell (by exact hbl6)]; exact h39.out
      · by_cases m0 : mv = 0
        · as_aux_lemma =>
          have n0 : (mv : Int) = 0 := by omega
          obtain ⟨base, off, q1, q2, q3, q4⟩ := HR.out.off _ _ H6.out.1
          have HW : Hid (RGW T b g t m last mv f fp St w W6 (o + vlen t + vlen m + m + vlen mv)) := ⟨⟨H6.out.1, HBD6.out, d34, fun i hi => by rw [if_neg (by omega)]; exact H6.out.2.1 i hi, H6.out.2.2.2.1, ⟨_, H6.out.2.2.2.2⟩, h39.out, HQ6.out, H6.out.2.2.1, hgl6⟩⟩
          go_wp2_with (first | (go_at_call 8; refine (offset_any b base off _ q1 q2 (by omega) (by omega)).mono ?_; rintro e w7 ⟨rfl, hb7⟩; have h527 : w7.cell? ⟨g, 52, none⟩ = some v52 := (hb7.cell (by exact hgl6)).trans H6.out.2.2.2.2; have e527 : w7.frozen? ⟨g, 52, none⟩ = false := (hb7.frozen (by exact hgl6)).trans (H6.out.2.2.1 52)))
          go_ret
          exact HW.out.fin HR.out hb7 (by unfold rlen; rw [if_neg (by omega), if_neg (by omega)]; omega) hk5 hts (by omega) hT hgb _ (by omega)
        · by_cases m1 : mv = 1
          · as_aux_lemma =>
            have n0 : ¬ (mv : Int) = 0 := by omega
            have n1 : (mv : Int) = 1 := by omega
            have hcall : Calls Ybaf.prog 15 #[.pointer (some ⟨b, 0, none⟩), .int .i64 16, .slice (some ⟨g, 35, none⟩) 16 16, .string ⟨#[102, 105, 110, 103, 101, 114, 112, 114, 105, 110, 116]⟩] W6 _ := rbytes HR.out F g 35 16 16 (o + vlen t + vlen m + m + vlen mv) ⟨#[102, 105, 110, 103, 101, 114, 112, 114, 105, 110, 116]⟩ W6 (fun h => HEN.out (by unfold rlen; rw [if_pos m1]; omega)) (by rw [HQ6.out.tape]; exact HF.out) hk5 (by omega) (by omega) hT hgb (fun j hj => by rw [H6.out.2.1 j hj]; rfl) (fun j hj => H6.out.2.2.1 _) hgl6 H6.out.1
            have HC := hide hcall
            clear hcall
            go_wp2_with fail
            refine HC.out.mono ?_
            clear HC
            rintro e w7 (⟨hk7, rfl, hst7, hfk7, hgb7⟩ | ⟨hk7, pb, r, rfl, hpb, hst7, hfk7, hgb7⟩)
            · obtain ⟨base, off, q1, q2, q3, q4⟩ := HR.out.off _ _ hst7
              have hgl7 := hgb7.lt
              have h527 : w7.cell? ⟨g, 52, none⟩ = some v52 := (hgb7.out 52 (by omega)).trans H6.out.2.2.2.2
              have HW : Hid (RGW T b g t m last mv f fp St w w7 (o + vlen t + vlen m + m + vlen mv + 16)) := ⟨⟨hst7, fun j v hj => by rw [hgb7.out j (by have := (bnd_get hj).1; omega)]; exact HBD6.out j v hj, by rw [hgb7.out 34 (by omega)]; exact d34, fun i hi => by rw [if_pos m1, hgb7.done i hi, HE.out.2.2.2.2.1 m1 i hi (by omega)], by rw [hgb7.out 51 (by omega)]; exact H6.out.2.2.2.1, ⟨_, h527⟩, by rw [hfk7.cell 39 (by omega)]; exact h39.out, HQ6.out.trans (hfk7.qg (by omega) hgb7.frz), fun j => by rw [hgb7.frz]; exact H6.out.2.2.1 j, hgl7⟩⟩
              have e527 := HW.out.fz 52
              clear hst7 hfk7 hgb7
              go_wp2_with (first | (go_at_call 8; refine (offset_any b base off _ q1 q2 (by omega) (by omega)).mono ?_; rintro e w8 ⟨rfl, hb8⟩; have h528 : w8.cell? ⟨g, 52, none⟩ = some v52 := (hb8.cell (by exact hgl7)).trans h527; have e528 : w8.frozen? ⟨g, 52, none⟩ = false := (hb8.frozen (by exact hgl7)).trans e527))
              go_ret
              exact HW.out.fin HR.out hb8 (by unfold rlen; rw [if_pos (by omega)]; omega) hk7 hts (by omega) hT hgb _ (by omega)
            · go_wp2
              go_ret
              exact Or.inr ⟨pb, _, k, rfl, hpb, hk5, hst7, HQ6.out.trans (hfk7.qg (by omega) hgb7.frz), fun h => by exfalso; unfold rlen at h; rw [if_pos (by omega)] at h; omega⟩
          · obtain rfl : mv = 2 := by omega
            as_aux_lemma =>
            have HIDS := hide (And.intro (HRM.out.2.1 rfl) (HRM.out.2.2 rfl))
            have HROOM := hide HRM.out.1
            clear HRM
            have HC : Hid (Calls Ybaf.prog 14 #[.pointer (some ⟨b, 0, none⟩)] W6 _) := ⟨rvarint HR.out cnt _ W6 (fun h => HEN.out (by unfold rlen; rw [if_neg (by omega), if_pos rfl]; omega)) (by omega) hk5 (HE.out.2.2.2.2.2 rfl) H6.out.1⟩
            go_wp2_with fail
            refine HC.out.mono ?_
            clear HC
            rintro e w7 (⟨hk7, rfl, hst7, hfk7⟩ | ⟨hk7, pb, rfl, hpb, hst7, hfk7⟩)
            · obtain ⟨p, hp⟩ : ∃ p, p = o + vlen t + vlen m + m + vlen 2 + vlen cnt := ⟨_, rfl⟩
              rw [← hp] at hst7 hk7
              rw [← hp] at HIDS
              have hrl : Hid (o + rlen (vlen t + vlen m + m) 2 cnt = p + 32 * cnt) := ⟨by unfold rlen; rw [if_neg (by omega), if_pos rfl]; omega⟩
              have hblk7 : w7.heap[g]? = W6.heap[g]? := hfk7.block g hgl6 hT hgb
              have hgc7 : Hid (∀ j, w7.cell? ⟨g, j, none⟩ = W6.cell? ⟨g, j, none⟩) := ⟨fun j => World.cell?_of_block (w := W6) (by exact hblk7)⟩
              have hgz7 : Hid (∀ j, w7.frozen? ⟨g, j, none⟩ = W6.frozen? ⟨g, j, none⟩) := ⟨fun j => World.frozen?_of_block (w := W6) (by exact hblk7)⟩
              have hgl7 : g < w7.heap.size := Nat.lt_of_lt_of_le hgl6 hfk7.size
              have hbl7 := HR.out.lt _ _ hst7
              have HQ7 : Hid (Fq T b g 40 w w7) := ⟨HQ6.out.trans (hfk7.q (by omega) hT hgb hgl6)⟩
              have h397 : Hid (w7.cell? ⟨b, 39, none⟩ = some (.int .i64 1)) := ⟨by rw [hfk7.cell 39 (by omega)]; exact h39.out⟩
              have H7 := hide hst7
              clear hblk7 hst7 hfk7
              obtain ⟨x, hx⟩ : ∃ x, x = rm - p := ⟨_, rfl⟩
              obtain ⟨q, hq⟩ : ∃ q, q = x / 32 := ⟨_, rfl⟩
              rw [← hx, ← hq] at HIDS
              have hxu := wrapU (x : Int) (by omega) (by omega)
              have hxq : (x : Int) / 32 = q := by omega
              have hqu := wrapU (q : Int) (by omega) (by omega)
              have hxt : (x : Int).tdiv 32 = q := by rw [Int.tdiv_eq_ediv_of_nonneg (by omega)]; omega
              have HRC : Hid (Calls Ybaf.prog 16 #[.pointer (some ⟨b, 0, none⟩)] w7 _) := ⟨HROOM.out w7 p H7.out⟩
              rw [← hx] at HRC
              have HQX := hide hq
              have HPX := hide (And.intro hp hx)
              clear hq hx hp
              by_cases hqc : q < cnt
              · obtain ⟨hkl, hsrc⟩ := HIDS.out.1 hqc
                have c3 : w7.cell? ⟨b, 3, none⟩ = some (.pointer none) := by rw [HQ7.out.cell 3 (by omega)]; exact hsrc
                obtain ⟨base, off, q1, q2, q3, q4⟩ := HR.out.off _ _ H7.out
                have hqd : decide (q < cnt) = true := by simpa using hqc
                have hqi : (q : Int) < cnt := by omega
                have htp : w7.tape = w.tape := HQ7.out.tape
                go_wp2_with (first | (go_at_call 16; refine HRC.out.mono ?_; clear HRC; rintro e w8 ⟨rfl, hb8⟩; have hF8 := answers_open (show F.answers w8.tape by rw [hb8.tape, htp]; exact HF.out); have c38 : w8.cell? ⟨b, 3, none⟩ = some (.pointer none) := (hb8.cell (by exact hbl7)).trans c3))
                have hbb : ∀ o1, Below w7.heap.size w7 (w8.alloc o1).drew := fun o1 => (hb8.alloc hb8.size o1).drew
                refine (fail_any b base off _ _ (by rw [(hbb _).cell (by exact hbl7)]; exact q1) (by rw [(hbb _).cell (by exact hbl7)]; exact q2) (by omega) (by omega)).mono ?_
                rintro e w9 ⟨pb, rfl, hpb, hb9⟩
                have hb10 : Below w7.heap.size w7 w9 := (hbb _).trans (hb9.mono (hbb _).size)
                clear hF8 c38
                go_wp2
                go_ret
                exact Or.inr ⟨pb, p, p, rfl, by rw [hpb]; congr 2; omega, hk7, HR.out.below _ _ _ H7.out hb10, HQ7.out.trans (Fq.of_below hb10 hbl7 hgl7), fun h => by omega⟩
              · obtain ⟨hlk, h19⟩ := HIDS.out.2 hk7 (by omega)
                have HC19 := hide h19
                clear h19
                have hqd : decide (q < cnt) = false := by simpa using hqc
                have hqi : ¬ (q : Int) < cnt := by omega
                have hcw := wrap_in (cnt : Int) (by omega) (by omega)
                have hmw := wrap_in ((cnt : Int) * 32) (by omega) (by omega)
                have htp : w7.tape = w.tape := HQ7.out.tape
                go_wp2_with (first | (go_at_call 16; refine HRC.out.mono ?_; clear HRC; rintro e w8 ⟨rfl, hb8⟩))
                have hc19 := HC19.out w8 (by rw [hb8.tape, htp]; exact HF.out) (HR.out.below _ _ _ H7.out hb8)
                rw [show ((32 * cnt : Nat) : Int) = (cnt : Int) * 32 by omega] at hc19
                refine hc19.mono ?_
                rintro e w9 ⟨rfl, hst9, hfk9⟩
                clear hc19 HC19 HIDS
                have hgl8 : g < w8.heap.size := Nat.lt_of_lt_of_le hgl7 hb8.size
                have hbl8 : b < w8.heap.size := Nat.lt_of_lt_of_le hbl7 hb8.size
                have hgl9 : g < w9.heap.size := Nat.lt_of_lt_of_le hgl8 hfk9.size
                have hgc9 : Hid (∀ j, w9.cell? ⟨g, j, none⟩ = W6.cell? ⟨g, j, none⟩) := ⟨fun j => by rw [World.cell?_of_block (w := w8) (by exact hfk9.block g hgl8 hT hgb), hb8.cell (by exact hgl7)]; exact hgc7.out j⟩
                have HQ9 : Hid (Fq T b g 40 w w9) := ⟨HQ7.out.trans ((Fq.of_below hb8 hbl7 hgl7).trans (hfk9.q (by omega) hT hgb hgl8))⟩
                have hgz9 : Hid (∀ j, w9.frozen? ⟨g, j, none⟩ = false) := ⟨fun j => by rw [World.frozen?_of_block (w := w8) (by exact hfk9.block g hgl8 hT hgb), hb8.frozen (by exact hgl7), hgz7.out]; exact H6.out.2.2.1 j⟩
                have h399 : Hid (w9.cell? ⟨b, 39, none⟩ = some (.int .i64 1)) := ⟨by rw [hfk9.cell 39 (by omega), hb8.cell (by exact hbl7)]; exact h397.out⟩
                have c51 : w9.cell? ⟨g, 51, none⟩ = some (.slice none 0 0) := by rw [hgc9.out]; exact H6.out.2.2.2.1
                have e51 := hgz9.out 51
                obtain ⟨W10, hW10⟩ : ∃ W10, W10 = w9.setCell ⟨g, 51, none⟩ (.slice none 0 0) := ⟨_, rfl⟩
                have hc10 : ∀ j, W10.cell? ⟨g, j, none⟩ = W6.cell? ⟨g, j, none⟩ := fun j => by
                  by_cases hj : j = 51
                  · subst hj; rw [hW10, World.cell?_setCell_same _ _ _ c51]; exact H6.out.2.2.2.1.symm
                  · rw [hW10, World.cell?_setCell_other _ _ _ _ (by intro e; injection e with _ e2 _; exact hj e2.symm)]; exact hgc9.out j
                have HW : Hid (RGW T b g t m last 2 f fp St w W10 (p + 32 * cnt)) := ⟨⟨by rw [hW10]; exact HR.out.other _ _ _ _ _ hst9 hT (Or.inl hgb), fun j v hj => by rw [hc10]; exact HBD6.out j v hj, by rw [hc10]; exact d34, fun i hi => by rw [hc10, if_neg (by omega)]; exact H6.out.2.1 i hi, by rw [hc10]; exact H6.out.2.2.2.1, ⟨v52, by rw [hc10]; exact H6.out.2.2.2.2⟩, by rw [hW10, World.cell?_setCell_other _ _ _ _ (by intro e; injection e with e1 _ _; exact hgb e1)]; exact h399.out, by rw [hW10]; exact HQ9.out.trans (Fq.setG hgb 51 _), fun j => by rw [hW10, World.frozen?_setCell]; exact hgz9.out j, by rw [hW10]; simpa using hgl9⟩⟩
                have h52 : W10.cell? ⟨g, 52, none⟩ = some v52 := by rw [hc10]; exact H6.out.2.2.2.2
                have e52 := HW.out.fz 52
                have hgl10 := HW.out.lt
                obtain ⟨base, off, q1, q2, q3, q4⟩ := HR.out.off _ _ HW.out.st
                have HW10 := hide hW10
                clear hW10 hc10 hst9 hfk9
                go_upto_region 31 with fail
                rw [← HW10.out]
                clear HW10 c51 e51
                go_wp2_with (first | (go_at_call 8; refine (offset_any b base off _ q1 q2 (by omega) (by omega)).mono ?_; rintro e w11 ⟨rfl, hb11⟩; have h5211 : w11.cell? ⟨g, 52, none⟩ = some v52 := (hb11.cell (by exact hgl10)).trans h52; have e5211 : w11.frozen? ⟨g, 52, none⟩ = false := (hb11.frozen (by exact hgl10)).trans e52))
                go_ret
                exact HW.out.fin HR.out hb11 hrl.out.symm q4 hts (by omega) hT hgb _ (by omega)
            · go_wp2
              go_ret
              exact Or.inr ⟨pb, k, k, rfl, hpb, Nat.le_refl _, hst7, HQ6.out.trans (hfk7.q (by omega) hT hgb hgl6), fun h => by exfalso; unfold rlen at h; rw [if_neg (by omega), if_pos rfl] at h; omega⟩
    · go_wp2
      go_ret
      exact Or.inr ⟨pb, k, k, rfl, hpb, Nat.le_refl _, hst5, HQ4.out.trans (hfk5.q (by omega) hT hgb hgl4), fun h => by unfold rlen at h; omega⟩
  · go_wp2
    go_ret
    refine Or.inr ⟨pb, off', o', rfl, hpb, hle, hst2, (HQ1.out.trans hfq2).wide (by omega), fun h => ?_⟩
    have h' : o + vlen t + vlen m + m ≤ k := by unfold rlen at h; omega
    obtain ⟨p1, p2⟩ := hpos h'
    exact Or.inl ⟨by rcases hk2 with hh | hh; omega; exact hh, p1, p2⟩
end Go.Proofs.YbulkcgfiFmt
