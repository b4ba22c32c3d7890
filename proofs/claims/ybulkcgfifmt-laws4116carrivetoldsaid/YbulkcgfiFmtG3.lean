import Derived.Test.YbulkcgfiFmtG2
namespace Go.Proofs.YbulkcgfiFmt
open Go.RowKit Go.Extern.Stop Go.Stop Go.Extern
set_option linter.unusedVariables false
set_option linter.unusedSimpArgs false
/-- What a call of the reader may change: its first three cells, and the blocks of T. -/
structure Fk (T : Nat → Prop) (b : Nat) (w w' : World) : Prop where
  os : w'.os = w.os
  tape : w'.tape = w.tape
  output : w'.output = w.output
  size : w.heap.size ≤ w'.heap.size
  block : ∀ g, g < w.heap.size → ¬ T g → g ≠ b → w'.heap[g]? = w.heap[g]?
  cell : ∀ j, 3 ≤ j → w'.cell? ⟨b, j, none⟩ = w.cell? ⟨b, j, none⟩
  frz : ∀ j, w'.frozen? ⟨b, j, none⟩ = w.frozen? ⟨b, j, none⟩
theorem Fk.refl (T : Nat → Prop) (b : Nat) (w : World) : Fk T b w w := ⟨rfl, rfl, rfl, Nat.le_refl _, fun _ _ _ _ => rfl, fun _ _ => rfl, fun _ => rfl⟩
theorem Fk.trans {T : Nat → Prop} {b : Nat} {u v w : World} (h : Fk T b u v) (k : Fk T b v w) : Fk T b u w :=
  ⟨k.os.trans h.os, k.tape.trans h.tape, k.output.trans h.output, Nat.le_trans h.size k.size, fun g h1 h2 h3 => (k.block g (Nat.lt_of_lt_of_le h1 h.size) h2 h3).trans (h.block g h1 h2 h3), fun j hj => (k.cell j hj).trans (h.cell j hj), fun j => (k.frz j).trans (h.frz j)⟩
theorem Fk.of_below {T : Nat → Prop} {b : Nat} {w w' : World} (h : Below w.heap.size w w') (hb : b < w.heap.size) : Fk T b w w' :=
  ⟨h.os, h.tape, h.output, h.size, fun g h1 _ _ => h.block g h1, fun j _ => h.cell (by exact hb), fun j => h.frozen (by exact hb)⟩
theorem Fk.set {T : Nat → Prop} {b : Nat} {w : World} (j : Nat) (hj : j < 3) (v : Value) : Fk T b w (w.setCell ⟨b, j, none⟩ v) :=
  ⟨rfl, rfl, rfl, by simp, fun g h1 h2 h3 => Below.heap_setCell _ _ _ _ (by exact fun e => h3 e), fun i hi => World.cell?_setCell_other _ _ _ _ (by intro e; injection e with _ e2 _; omega), fun i => World.frozen?_setCell _ _ _ _⟩
/-- The byte at o lies ready. -/
structure Av (w : World) (b k : Nat) (E : Nat → Nat) (o mb mo len cap off base : Nat) : Prop where
  c0 : w.cell? ⟨b, 0, none⟩ = some (.slice (some ⟨mb, mo, none⟩) len cap)
  c1 : w.cell? ⟨b, 1, none⟩ = some (.int .i64 base)
  c2 : w.cell? ⟨b, 2, none⟩ = some (.int .i64 off)
  f2 : w.frozen? ⟨b, 2, none⟩ = false
  at_ : base + off = o
  lt : off < len
  le : base + len ≤ k
  cap : len ≤ cap
  byte : ∀ i, i < len → w.cell? ⟨mb, mo + i, none⟩ = some (.int .u8 (E (base + i)))
theorem Av.drewN {w : World} {b k : Nat} {E : Nat → Nat} {o mb mo len cap off base n : Nat} (h : Av w b k E o mb mo len cap off base) : Av (w.drewN n) b k E o mb mo len cap off base :=
  ⟨h.c0, h.c1, h.c2, h.f2, h.at_, h.lt, h.le, h.cap, h.byte⟩
/-- What is asked of a reader: St w o: it stands at the message's offset o; the message E has k bytes; en: it may be asked beyond them. -/
structure Rdr (en : Prop) (T : Nat → Prop) (b k : Nat) (E : Nat → Nat) (St Sw : World → Nat → Prop) : Prop where
  big : k ≤ 100000
  lt : ∀ w o, St w o → b < w.heap.size
  ltw : ∀ w o, Sw w o → b < w.heap.size
  has : ∀ w o, St w o → o < k → Calls Ybaf.prog 22 #[.pointer (some ⟨b, 0, none⟩)] w fun e w' => e = .returned (.tuple #[.bool true, .nilIface]) ∧ Sw w' o ∧ Fk T b w w' ∧ ∃ mb mo len cap off base, Av w' b k E o mb mo len cap off base
  ends : en → ∀ w, St w k → Calls Ybaf.prog 22 #[.pointer (some ⟨b, 0, none⟩)] w fun e w' => e = .returned (.tuple #[.bool false, .nilIface]) ∧ St w' k ∧ Fk T b w w'
  adv : ∀ w o a len cap off r, Sw w o → w.cell? ⟨b, 0, none⟩ = some (.slice a len cap) → w.cell? ⟨b, 2, none⟩ = some (.int .i64 ((off : Nat) : Int)) → off + r ≤ len → 0 < r → St (w.setCell ⟨b, 2, none⟩ (.int .i64 ((off + r : Nat) : Int))) (o + r)
  off : ∀ w o, St w o → ∃ base off : Nat, w.cell? ⟨b, 1, none⟩ = some (.int .i64 base) ∧ w.cell? ⟨b, 2, none⟩ = some (.int .i64 off) ∧ base + off = o ∧ o ≤ k
  below : ∀ w w' o, St w o → Below w.heap.size w w' → St w' o
  beloww : ∀ w w' o, Sw w o → Below w.heap.size w w' → Sw w' o
  other : ∀ w o g j v, St w o → ¬ T g → (g ≠ b ∨ 4 ≤ j) → St (w.setCell ⟨g, j, none⟩ v) o
  otherw : ∀ w o g j v, Sw w o → ¬ T g → (g ≠ b ∨ 4 ≤ j) → Sw (w.setCell ⟨g, j, none⟩ v) o
theorem and_u8_127 (x : Nat) (h : x < 256) : bits .and .u8 (x : Int) 127 = ((x % 128 : Nat) : Int) := by
  have : ∀ y : Fin 256, bits .and .u8 ((y.val : Nat) : Int) 127 = ((y.val % 128 : Nat) : Int) := by decide +kernel
  exact this ⟨x, h⟩
theorem and_u8_128 (x : Nat) (h : x < 256) : bits .and .u8 (x : Int) 128 = if x < 128 then 0 else 128 := by
  have : ∀ y : Fin 256, bits .and .u8 ((y.val : Nat) : Int) 128 = if y.val < 128 then 0 else 128 := by decide +kernel
  exact this ⟨x, h⟩
theorem or_u64 (a d : Nat) (h : a * 128 + d < 18446744073709551616) (hd : d < 128) : bits .or .u64 ((a : Int) * 128) (d : Int) = ((a * 128 + d : Nat) : Int) := by
  rw [show ((a : Int) * 128) = ((a * 128 : Nat) : Int) by omega, bits_or_u64_nat _ _ (by omega) (by omega), show a * 128 = 2 ^ 7 * a by omega, ← Nat.two_pow_add_eq_or_of_lt hd]
theorem vlen_pow : ∀ (k m : Nat), k + 1 < vlen m → 128 ^ (k + 1) ≤ m := by
  intro k
  induction k with
  | zero => intro m hm; unfold vlen at hm; split at hm <;> omega
  | succ k ih =>
    intro m hm
    unfold vlen at hm
    split at hm
    · omega
    · have := ih (m / 128) (by omega)
      rw [Nat.pow_succ]; omega
theorem vlen_top (n : Nat) : n / 128 ^ vlen n = 0 := by
  by_cases h : n / 128 ^ vlen n = 0
  · exact h
  · have := vlen_lt (n := n) (k := vlen n) (Nat.pos_of_ne_zero h)
    omega
theorem acc_step (n i : Nat) : n / 128 ^ i = n / 128 ^ (i + 1) * 128 + dg n i := by
  unfold dg
  rw [Nat.pow_succ, ← Nat.div_div_eq_div_mul]
  omega
theorem acc_grow {n i : Nat} (h0 : 0 < i) (h : i < vlen n) : n / 128 ^ (i + 1) < n / 128 ^ i := by
  have h1 : 0 < n / 128 ^ i := by
    obtain ⟨i, rfl⟩ : ∃ i', i = i' + 1 := ⟨i - 1, by omega⟩
    exact Nat.div_pos (vlen_pow i n h) (Nat.pow_pos (by omega))
  have := acc_step n i
  omega
set_option maxRecDepth 100000 in
set_option maxHeartbeats 1000000 in
/-- messageReader.readVarint -/
theorem rvarint {en : Prop} {T : Nat → Prop} {b k : Nat} {E : Nat → Nat} {St Sw : World → Nat → Prop} (R : Rdr en T b k E St Sw) (n o : Nat) (w : World) (hen : k < o + vlen n → en) (hn : n < 18446744073709551616) (hok : o ≤ k) (hv : ∀ i, i < vlen n → o + i < k → E (o + i) = vb n (vlen n - 1 - i)) (hs : St w o) :
    Calls Ybaf.prog 14 #[.pointer (some ⟨b, 0, none⟩)] w fun e w' => (o + vlen n ≤ k ∧ e = .returned (.tuple #[.int .u64 n, .nilIface]) ∧ St w' (o + vlen n) ∧ Fk T b w w') ∨ (k < o + vlen n ∧ ∃ pb, e = .returned (.tuple #[.int .u64 0, .iface 46 (.pointer (some ⟨pb, 0, none⟩))]) ∧ w'.cell? ⟨pb, 0, none⟩ = some (.int .i64 k) ∧ St w' k ∧ Fk T b w w') := by
  have h10 := vlen_le hn
  have hp : 0 < vlen n := by unfold vlen; split <;> omega
  have HR := hide R
  have HS := hide hs
  have HV := hide hv
  have HEN := hide hen
  clear R hs hv hen
  go_enter Ybaf.func14, Ybaf.ntmps14
  go_wp2
  go_loopw [4] (fun nv wr => ∃ j : Nat, j < vlen n ∧ o + j ≤ k ∧ nv = .int .u64 ((n / 128 ^ (vlen n - j) : Nat) : Int) ∧ St wr (o + j) ∧ Fk T b w wr) (fun nv _ => 18446744073709551616 - (intOf nv).toNat)
  case atStart => exact ⟨0, hp, by omega, by simp [vlen_top], HS.out, Fk.refl _ _ _⟩
  case round =>
    clear HS
    obtain ⟨j, hj, hjk, rfl, hst, hfk⟩ := hrel
    obtain ⟨i, hi⟩ : ∃ i, vlen n = i + 1 + j := ⟨vlen n - 1 - j, by omega⟩
    have e1 : vlen n - j = i + 1 := by omega
    have e2 : vlen n - 1 - j = i := by omega
    obtain ⟨a, ha⟩ : ∃ a, n / 128 ^ (i + 1) = a := ⟨_, rfl⟩
    have hstep := acc_step n i
    obtain ⟨d, hd⟩ : ∃ d, dg n i = d := ⟨_, rfl⟩
    have hd128 : d < 128 := by rw [← hd]; exact dg_lt n i
    have hle : n / 128 ^ i ≤ n := Nat.div_le_self _ _
    rw [ha, hd] at hstep
    rw [e1, ha]
    have hover : ¬ (144115188075855871 : Int) < a := by omega
    have HST := hide (And.intro hst hfk)
    have HJ := hide (And.intro hi (And.intro e1 (And.intro e2 (And.intro ha (And.intro hd hstep)))))
    have hgr : Hid (0 < i → a < a * 128 + d) := ⟨fun h0 => by have := acc_grow h0 (by omega : i < vlen n); omega⟩
    clear e1 e2 ha hd hst hfk
    by_cases hk : o + j < k
    · have hE := HV.out j hj hk
      rw [HJ.out.2.2.1] at hE
      unfold vb at hE
      rw [HJ.out.2.2.2.2.1] at hE
      obtain ⟨c, hc⟩ : ∃ c, E (o + j) = c := ⟨_, rfl⟩
      rw [hc] at hE
      have hc256 : c < 256 := by rw [hE]; split <;> omega
      have b1 := and_u8_127 c hc256
      have b2 := and_u8_128 c hc256
      have hcd : c % 128 = d := by rw [hE]; split <;> omega
      rw [hcd] at b1
      have b3 := or_u64 a d (by omega) hd128
      have HC := hide (And.intro hc hE)
      clear hc hE hcd
      go_wp2_with fail
      refine (HR.out.has _ _ HST.out.1 hk).mono ?_
      rintro e w1 ⟨rfl, hst1, hfk1, mb, mo, len, cap, off, base, hav⟩
      have a0 := hav.c0
      have a2 := hav.c2
      have f2 := hav.f2
      have hlt := hav.lt
      have hbig := HR.out.big
      have hle2 := hav.le
      have ab := hav.byte off hav.lt
      rw [hav.at_, HC.out.1] at ab
      have hlt' : (off : Int) < len := by omega
      have HA := hide hav
      have H1 := hide (And.intro hst1 hfk1)
      clear hav hst1 hfk1
      by_cases hi0 : i = 0
      · have hc128 : c < 128 := by have := HC.out.2; rw [if_neg (by omega)] at this; omega
        rw [if_pos hc128] at b2
        go_wp2
        go_quiet (fail)
        go_wp2
        have hst2 := HR.out.adv _ _ _ _ _ _ 1 (HR.out.beloww _ _ _ H1.out.1 (bdrewN (n := nq) (Below.refl _ _))) HA.out.drewN.c0 HA.out.drewN.c2 (by omega) (by omega)
        rw [show ((off + 1 : Nat) : Int) = (off : Int) + 1 from rfl] at hst2
        have hbl := HR.out.ltw _ _ H1.out.1
        go_ret2
        have hn' : n = a * 128 + d := by have := HJ.out.2.2.2.2.2; subst hi0; simpa using this
        exact Or.inl ⟨by have := HJ.out.1; omega, by simp [hn'], by rw [show o + vlen n = o + j + 1 by have := HJ.out.1; omega]; exact hst2, (HST.out.2.trans H1.out.2).trans ((Fk.of_below (bdrewN (n := nq) (Below.refl _ _)) hbl).trans (Fk.set 2 (by omega) _))⟩
      · have hc128 : ¬ c < 128 := by have := HC.out.2; rw [if_pos (by omega)] at this; omega
        rw [if_neg hc128] at b2
        go_wp2
        go_quiet (fail)
        go_wp2
        have hst2 := HR.out.adv _ _ _ _ _ _ 1 (HR.out.beloww _ _ _ H1.out.1 (bdrewN (n := nq) (Below.refl _ _))) HA.out.drewN.c0 HA.out.drewN.c2 (by omega) (by omega)
        rw [show ((off + 1 : Nat) : Int) = (off : Int) + 1 from rfl] at hst2
        have hbl := HR.out.ltw _ _ H1.out.1
        go_roundw
        case rel => exact ⟨j + 1, by have := HJ.out.1; omega, by omega, by rw [show vlen n - (j + 1) = i by have := HJ.out.1; omega, HJ.out.2.2.2.2.2]; simp, hst2, (HST.out.2.trans H1.out.2).trans ((Fk.of_below (bdrewN (n := nq) (Below.refl _ _)) hbl).trans (Fk.set 2 (by omega) _))⟩
        case measure =>
          have := hgr.out (by omega)
          simp [intOf]
          omega
    · obtain rfl : k = o + j := by omega
      go_wp2_with fail
      refine (HR.out.ends (HEN.out (by omega)) _ HST.out.1).mono ?_
      rintro e w1 ⟨rfl, hst1, hfk1⟩
      obtain ⟨base, off, q1, q2, q3, q4⟩ := HR.out.off _ _ hst1
      have hbig := HR.out.big
      have hbl := HR.out.lt _ _ hst1
      have H1 := hide (And.intro hst1 hfk1)
      clear hst1 hfk1
      go_wp2_with (first | (go_at_call 11; refine (fail_any b base off _ _ q1 q2 (by omega) (by omega)).mono ?_; rintro e w2 ⟨pb, rfl, hpb, hb2⟩))
      go_ret2
      exact Or.inr ⟨by omega, pb, rfl, by rw [hpb]; congr 2; omega, HR.out.below _ _ _ H1.out.1 hb2, (HST.out.2.trans H1.out.2).trans (Fk.of_below hb2 hbl)⟩
end Go.Proofs.YbulkcgfiFmt
