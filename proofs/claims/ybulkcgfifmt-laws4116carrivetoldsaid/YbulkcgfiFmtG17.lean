import Derived.Test.YbulkcgfiFmtG16
namespace Go.Proofs.YbulkcgfiFmt
open Go.RowKit Go.Extern.Stop Go.Stop Go.Extern
set_option linter.unusedVariables false
set_option linter.unusedSimpArgs false
/-- The reader and its source, whole. -/
structure AS (w0 : World) (b sb cb pb eb kb mb n cap c : Nat) (E : Nat → Nat) (a0 : Addr) (w : World) (o K base len cap1 off : Nat) (ma : Option Addr) : Prop where
  ar : Ar w sb cb pb eb kb mb n cap K (base + len) c a0
  c0 : w.cell? ⟨b, 0, none⟩ = some (.slice ma len cap1)
  c1 : w.cell? ⟨b, 1, none⟩ = some (.int .i64 ((base : Nat) : Int))
  c2 : w.cell? ⟨b, 2, none⟩ = some (.int .i64 ((off : Nat) : Int))
  c3 : w.cell? ⟨b, 3, none⟩ = some (.pointer (some ⟨sb, 0, none⟩))
  fz : ∀ j, w.frozen? ⟨b, j, none⟩ = false
  at_ : base + off = o
  ol : off ≤ len
  ln : base + len ≤ n
  byte : ∀ i, i < n → w.cell? ⟨mb, i, none⟩ = some (.int .u8 ((E i : Nat) : Int))
  ma : 0 < len → ma = some ⟨mb, base, none⟩
  lc : len ≤ cap1
  kk : (K = 0 ∧ base = 0 ∧ len = 0) ∨ (1 ≤ K ∧ base = (K - 1) * c ∧ 0 < len ∧ len ≤ c ∧ (len = c ∨ base + len = n))
  lt : b < w.heap.size ∧ sb < w.heap.size ∧ cb < w.heap.size ∧ pb < w.heap.size ∧ eb < w.heap.size ∧ kb < w.heap.size ∧ mb < w.heap.size ∧ 0 < w.heap.size
  z : w.heap[0]? = w0.heap[0]?
def ASt (w0 : World) (b sb cb pb eb kb mb n cap c : Nat) (E : Nat → Nat) (a0 : Addr) (w : World) (o : Nat) : Prop := ∃ K base len cap1 off ma, AS w0 b sb cb pb eb kb mb n cap c E a0 w o K base len cap1 off ma ∧ (K = 0 ∨ 0 < off)
def ASw (w0 : World) (b sb cb pb eb kb mb n cap c : Nat) (E : Nat → Nat) (a0 : Addr) (w : World) (o : Nat) : Prop := ∃ K base len cap1 off ma, AS w0 b sb cb pb eb kb mb n cap c E a0 w o K base len cap1 off ma
def AT (sb cb pb eb kb mb : Nat) (x : Nat) : Prop := x = 0 ∨ x = sb ∨ x = cb ∨ x = pb ∨ x = eb ∨ x = kb ∨ x = mb
section
variable {w0 : World} {b sb cb pb eb kb mb n cap c : Nat} {E : Nat → Nat} {a0 : Addr} {w w' : World} {o K base len cap1 off : Nat} {ma : Option Addr}
theorem AS.below (h : AS w0 b sb cb pb eb kb mb n cap c E a0 w o K base len cap1 off ma) (hb : Below w.heap.size w w') : AS w0 b sb cb pb eb kb mb n cap c E a0 w' o K base len cap1 off ma := by
  obtain ⟨l1, l2, l3, l4, l5, l6, l7, l8⟩ := h.lt
  have hs := hb.size
  have hc : ∀ g j, g < w.heap.size → w'.cell? ⟨g, j, none⟩ = w.cell? ⟨g, j, none⟩ := fun g j hg => hb.cell (by exact hg)
  have hf : ∀ g j, g < w.heap.size → w'.frozen? ⟨g, j, none⟩ = w.frozen? ⟨g, j, none⟩ := fun g j hg => hb.frozen (by exact hg)
  exact ⟨⟨by rw [hc _ _ l3]; exact h.ar.hc, by rw [hf _ _ l3]; exact h.ar.hcf, by rw [hc _ _ l4]; exact h.ar.hp, by rw [hf _ _ l4]; exact h.ar.hpf, by rw [hc _ _ l5]; exact h.ar.he, by rw [hc _ _ l6]; exact h.ar.hk, by rw [hc _ _ l2]; exact h.ar.s0, by rw [hc _ _ l2]; exact h.ar.s1, by rw [hc _ _ l2]; exact h.ar.s2, by rw [hc _ _ l2]; exact h.ar.s3, by rw [hc _ _ l8]; exact h.ar.g0⟩,
    by rw [hc _ _ l1]; exact h.c0, by rw [hc _ _ l1]; exact h.c1, by rw [hc _ _ l1]; exact h.c2, by rw [hc _ _ l1]; exact h.c3, fun j => by rw [hf _ _ l1]; exact h.fz j, h.at_, h.ol, h.ln, fun i hi => by rw [hc _ _ l7]; exact h.byte i hi, h.ma, h.lc, h.kk, by omega, (hb.block 0 l8).trans h.z⟩
theorem AS.other (h : AS w0 b sb cb pb eb kb mb n cap c E a0 w o K base len cap1 off ma) (g j : Nat) (v : Value) (hT : ¬ AT sb cb pb eb kb mb g) (hg : g ≠ b ∨ 4 ≤ j) : AS w0 b sb cb pb eb kb mb n cap c E a0 (w.setCell ⟨g, j, none⟩ v) o K base len cap1 off ma := by
  unfold AT at hT
  have hc : ∀ x i, x ≠ g → (w.setCell ⟨g, j, none⟩ v).cell? ⟨x, i, none⟩ = w.cell? ⟨x, i, none⟩ := fun x i hx => World.cell?_setCell_other _ _ _ _ (by intro e; injection e with e1 _ _; exact hx e1.symm)
  have hbc : ∀ i, i < 4 → (w.setCell ⟨g, j, none⟩ v).cell? ⟨b, i, none⟩ = w.cell? ⟨b, i, none⟩ := fun i hi => World.cell?_setCell_other _ _ _ _ (by intro e; injection e with e1 e2 _; rcases hg with hh | hh; exact hh e1; omega)
  have hf : ∀ a, (w.setCell ⟨g, j, none⟩ v).frozen? a = w.frozen? a := fun a => World.frozen?_setCell _ _ _ _
  have n0 : 0 ≠ g := by omega
  have n1 : sb ≠ g := by omega
  have n2 : cb ≠ g := by omega
  have n3 : pb ≠ g := by omega
  have n4 : eb ≠ g := by omega
  have n5 : kb ≠ g := by omega
  have n6 : mb ≠ g := by omega
  exact ⟨⟨by rw [hc _ _ n2]; exact h.ar.hc, by rw [hf]; exact h.ar.hcf, by rw [hc _ _ n3]; exact h.ar.hp, by rw [hf]; exact h.ar.hpf, by rw [hc _ _ n4]; exact h.ar.he, by rw [hc _ _ n5]; exact h.ar.hk, by rw [hc _ _ n1]; exact h.ar.s0, by rw [hc _ _ n1]; exact h.ar.s1, by rw [hc _ _ n1]; exact h.ar.s2, by rw [hc _ _ n1]; exact h.ar.s3, by rw [hc _ _ n0]; exact h.ar.g0⟩,
    by rw [hbc _ (by omega)]; exact h.c0, by rw [hbc _ (by omega)]; exact h.c1, by rw [hbc _ (by omega)]; exact h.c2, by rw [hbc _ (by omega)]; exact h.c3, fun j => by rw [hf]; exact h.fz j, h.at_, h.ol, h.ln, fun i hi => by rw [hc _ _ n6]; exact h.byte i hi, h.ma, h.lc, h.kk, by simpa using h.lt, (Below.heap_setCell _ _ _ _ (by exact n0)).trans h.z⟩
theorem AS.adv (ap : Ap b sb cb pb eb kb mb) (h : AS w0 b sb cb pb eb kb mb n cap c E a0 w o K base len cap1 off ma) (r : Nat) (hr : off + r ≤ len) : AS w0 b sb cb pb eb kb mb n cap c E a0 (w.setCell ⟨b, 2, none⟩ (.int .i64 ((off + r : Nat) : Int))) (o + r) K base len cap1 (off + r) ma := by
  have hb := ap.b
  have hz := ap.z
  have hc : ∀ x i, x ≠ b → (w.setCell ⟨b, 2, none⟩ (.int .i64 ((off + r : Nat) : Int))).cell? ⟨x, i, none⟩ = w.cell? ⟨x, i, none⟩ := fun x i hx => World.cell?_setCell_other _ _ _ _ (by intro e; injection e with e1 _ _; exact hx e1.symm)
  have hbc : ∀ i, i ≠ 2 → (w.setCell ⟨b, 2, none⟩ (.int .i64 ((off + r : Nat) : Int))).cell? ⟨b, i, none⟩ = w.cell? ⟨b, i, none⟩ := fun i hi => World.cell?_setCell_other _ _ _ _ (by intro e; injection e with e1 e2 _; exact hi e2.symm)
  have hf : ∀ a, (w.setCell ⟨b, 2, none⟩ (.int .i64 ((off + r : Nat) : Int))).frozen? a = w.frozen? a := fun a => World.frozen?_setCell _ _ _ _
  have n0 : 0 ≠ b := by omega
  have n1 : sb ≠ b := by omega
  have n2 : cb ≠ b := by omega
  have n3 : pb ≠ b := by omega
  have n4 : eb ≠ b := by omega
  have n5 : kb ≠ b := by omega
  have n6 : mb ≠ b := by omega
  have ha := h.at_
  exact ⟨⟨by rw [hc _ _ n2]; exact h.ar.hc, by rw [hf]; exact h.ar.hcf, by rw [hc _ _ n3]; exact h.ar.hp, by rw [hf]; exact h.ar.hpf, by rw [hc _ _ n4]; exact h.ar.he, by rw [hc _ _ n5]; exact h.ar.hk, by rw [hc _ _ n1]; exact h.ar.s0, by rw [hc _ _ n1]; exact h.ar.s1, by rw [hc _ _ n1]; exact h.ar.s2, by rw [hc _ _ n1]; exact h.ar.s3, by rw [hc _ _ n0]; exact h.ar.g0⟩,
    by rw [hbc _ (by omega)]; exact h.c0, by rw [hbc _ (by omega)]; exact h.c1, World.cell?_setCell_same _ _ _ h.c2, by rw [hbc _ (by omega)]; exact h.c3, fun j => by rw [hf]; exact h.fz j, by omega, hr, h.ln, fun i hi => by rw [hc _ _ n6]; exact h.byte i hi, h.ma, h.lc, h.kk, by simpa using h.lt, (Below.heap_setCell _ _ _ _ (by exact n0)).trans h.z⟩
theorem brought_cell (w : World) (b : Nat) (x : Int) (v : Value) (g j : Nat) (h : g ≠ b ∨ 3 ≤ j) : (brought w b x v).cell? ⟨g, j, none⟩ = w.cell? ⟨g, j, none⟩ := by
  unfold brought
  rw [World.cell?_setCell_other _ _ _ _ (by intro e; injection e with e1 e2 _; omega), World.cell?_setCell_other _ _ _ _ (by intro e; injection e with e1 e2 _; omega), World.cell?_setCell_other _ _ _ _ (by intro e; injection e with e1 e2 _; omega)]
theorem brought_frozen (w : World) (b : Nat) (x : Int) (v : Value) (a : Addr) : (brought w b x v).frozen? a = w.frozen? a := by unfold brought; rw [World.frozen?_setCell, World.frozen?_setCell, World.frozen?_setCell]
theorem brought_block (w : World) (b : Nat) (x : Int) (v : Value) (g : Nat) (h : g ≠ b) : (brought w b x v).heap[g]? = w.heap[g]? := by
  unfold brought
  rw [Below.heap_setCell _ _ _ _ (by exact h), Below.heap_setCell _ _ _ _ (by exact h), Below.heap_setCell _ _ _ _ (by exact h)]
theorem bumped_block (w : World) (cb pb K e g : Nat) (h1 : g ≠ cb) (h2 : g ≠ pb) : (bumped w cb pb K e).heap[g]? = w.heap[g]? := by
  unfold bumped
  rw [Below.heap_setCell _ _ _ _ (by exact h2), Below.heap_setCell _ _ _ _ (by exact h1)]
theorem set_misc (w : World) (a : Addr) (v : Value) : (w.setCell a v).os = w.os ∧ (w.setCell a v).tape = w.tape ∧ (w.setCell a v).output = w.output := ⟨rfl, rfl, rfl⟩
theorem drew_misc (w : World) : w.drew.os = w.os ∧ w.drew.tape = w.tape ∧ w.drew.output = w.output := ⟨rfl, rfl, rfl⟩
theorem drewN_misc (w : World) (n : Nat) : (w.drewN n).os = w.os ∧ (w.drewN n).tape = w.tape ∧ (w.drewN n).output = w.output := ⟨rfl, rfl, rfl⟩
theorem brought_misc (w : World) (cb pb K e nq b : Nat) (x : Int) (v : Value) : (brought (bumped (w.drewN nq) cb pb K e).drew b x v).os = w.os ∧ (brought (bumped (w.drewN nq) cb pb K e).drew b x v).tape = w.tape ∧ (brought (bumped (w.drewN nq) cb pb K e).drew b x v).output = w.output := by
  unfold brought bumped
  refine ⟨?_, ?_, ?_⟩
  · rw [(set_misc _ _ _).1, (set_misc _ _ _).1, (set_misc _ _ _).1, (drew_misc _).1, (set_misc _ _ _).1, (set_misc _ _ _).1, (drewN_misc _ _).1]
  · rw [(set_misc _ _ _).2.1, (set_misc _ _ _).2.1, (set_misc _ _ _).2.1, (drew_misc _).2.1, (set_misc _ _ _).2.1, (set_misc _ _ _).2.1, (drewN_misc _ _).2.1]
  · rw [(set_misc _ _ _).2.2, (set_misc _ _ _).2.2, (set_misc _ _ _).2.2, (drew_misc _).2.2, (set_misc _ _ _).2.2, (set_misc _ _ _).2.2, (drewN_misc _ _).2.2]
set_option maxHeartbeats 1000000 in
/-- The next chunk is brought. -/
theorem AS.bring (ap : Ap b sb cb pb eb kb mb) (h : AS w0 b sb cb pb eb kb mb n cap c E a0 w o K base len cap1 off ma) (hcap : n ≤ cap) (hc1 : 1 ≤ c) (ho : off = len) (hn : base + len < n) (e nq : Nat) (he : e = min (base + len + c) n) :
    AS w0 b sb cb pb eb kb mb n cap c E a0 (brought (bumped (w.drewN nq) cb pb K e).drew b ((base : Int) + len) (.slice (some ⟨mb, base + len, none⟩) (e - (base + len)) (cap - (base + len)))) o (K + 1) (base + len) (e - (base + len)) (cap - (base + len)) 0 (some ⟨mb, base + len, none⟩) ∧
    Fk (AT sb cb pb eb kb mb) b w (brought (bumped (w.drewN nq) cb pb K e).drew b ((base : Int) + len) (.slice (some ⟨mb, base + len, none⟩) (e - (base + len)) (cap - (base + len)))) := by
  obtain ⟨U, hU⟩ : ∃ U, U = bumped (w.drewN nq) cb pb K e := ⟨_, rfl⟩
  obtain ⟨V, hV⟩ : ∃ V, V = brought U.drew b ((base : Int) + len) (.slice (some ⟨mb, base + len, none⟩) (e - (base + len)) (cap - (base + len))) := ⟨_, rfl⟩
  rw [← hU, ← hV]
  have ha := h.at_
  have m1 : base + len + 0 = o := by omega
  have m2 : base + len + (e - (base + len)) ≤ n := by omega
  have m3 : e - (base + len) ≤ cap - (base + len) := by omega
  have m4 : 0 < e - (base + len) := by omega
  have m5 : e - (base + len) ≤ c := by omega
  have m6 : e - (base + len) = c ∨ base + len + (e - (base + len)) = n := by omega
  have m7 : base + len + (e - (base + len)) = e := by omega
  have hkk : base + len = K * c := by
    rcases h.kk with ⟨h1, h2, h3⟩ | ⟨h1, h2, h3, h4, h5⟩
    · subst h1; omega
    · have h6 : len = c := by omega
      obtain ⟨K', rfl⟩ : ∃ K', K = K' + 1 := ⟨K - 1, by omega⟩
      rw [h2, h6, Nat.add_sub_cancel, Nat.add_mul, Nat.one_mul]
  have bcb := ap.b.2.1
  have bpb := ap.b.2.2.1
  have sbb := ap.b.1.symm
  have cbb := ap.b.2.1.symm
  have pbb := ap.b.2.2.1.symm
  have ebb := ap.b.2.2.2.1.symm
  have kbb := ap.b.2.2.2.2.1.symm
  have mbb := ap.b.2.2.2.2.2.symm
  have zb := ap.z.1
  have zcb := ap.z.2.2.1
  have zpb := ap.z.2.2.2.1
  have mcb := ap.c.2.2.2.symm
  have mpb := ap.p.2.2.symm
  have hAr := (h.ar.drewN (m := nq)).bump ap e
  rw [← hU] at hAr
  have hc : ∀ x i, x ≠ b → V.cell? ⟨x, i, none⟩ = U.cell? ⟨x, i, none⟩ := fun x i hx => by rw [hV, brought_cell _ _ _ _ _ _ (Or.inl hx)]; rfl
  have hf : ∀ a, V.frozen? a = U.frozen? a := fun a => by rw [hV, brought_frozen]; rfl
  have uf : ∀ a, U.frozen? a = w.frozen? a := fun a => by rw [hU, bumped_frozen]; rfl
  have uc : ∀ x i, x ≠ cb → x ≠ pb → U.cell? ⟨x, i, none⟩ = w.cell? ⟨x, i, none⟩ := fun x i h1 h2 => by rw [hU, bumped_cell _ _ _ _ _ _ _ h1 h2]; rfl
  have ub : ∀ x, x ≠ cb → x ≠ pb → U.heap[x]? = w.heap[x]? := fun x h1 h2 => by rw [hU, bumped_block _ _ _ _ _ _ h1 h2]; rfl
  have hsz : V.heap.size = w.heap.size := by rw [hV, hU]; unfold brought bumped; simp [World.drewN, World.drew]
  have v0 : V.cell? ⟨b, 0, none⟩ = some (.slice (some ⟨mb, base + len, none⟩) (e - (base + len)) (cap - (base + len))) := by
    rw [hV]; unfold brought
    rw [World.cell?_setCell_other _ _ _ _ (by intro e; injection e with e1 e2 _; exact absurd e2 (by decide))]
    exact World.cell?_setCell_same _ _ _ (by rw [World.cell?_setCell_other _ _ _ _ (by intro e; injection e with e1 e2 _; exact absurd e2 (by decide))]; exact (uc b 0 bcb bpb).trans h.c0)
  have v1 : V.cell? ⟨b, 1, none⟩ = some (.int .i64 ((base + len : Nat) : Int)) := by
    rw [hV]; unfold brought
    rw [World.cell?_setCell_other _ _ _ _ (by intro e; injection e with e1 e2 _; exact absurd e2 (by decide)), World.cell?_setCell_other _ _ _ _ (by intro e; injection e with e1 e2 _; exact absurd e2 (by decide))]
    exact World.cell?_setCell_same _ _ _ ((uc b 1 bcb bpb).trans h.c1)
  have v2 : V.cell? ⟨b, 2, none⟩ = some (.int .i64 ((0 : Nat) : Int)) := by
    rw [hV]; unfold brought
    exact World.cell?_setCell_same _ _ _ (by rw [World.cell?_setCell_other _ _ _ _ (by intro e; injection e with e1 e2 _; exact absurd e2 (by decide)), World.cell?_setCell_other _ _ _ _ (by intro e; injection e with e1 e2 _; exact absurd e2 (by decide))]; exact (uc b 2 bcb bpb).trans h.c2)
  have v3 : ∀ j, 3 ≤ j → V.cell? ⟨b, j, none⟩ = w.cell? ⟨b, j, none⟩ := fun j hj => by rw [hV, brought_cell _ _ _ _ _ _ (Or.inr hj)]; exact uc b j bcb bpb
  constructor
  · refine ⟨⟨by rw [hc _ _ cbb]; exact hAr.hc, by rw [hf]; exact hAr.hcf, by rw [hc _ _ pbb, m7]; exact hAr.hp, by rw [hf]; exact hAr.hpf, by rw [hc _ _ ebb]; exact hAr.he, by rw [hc _ _ kbb]; exact hAr.hk, by rw [hc _ _ sbb]; exact hAr.s0, by rw [hc _ _ sbb]; exact hAr.s1, by rw [hc _ _ sbb]; exact hAr.s2, by rw [hc _ _ sbb]; exact hAr.s3, by rw [hc _ _ zb]; exact hAr.g0⟩, v0, v1, v2, by rw [v3 3 (by omega)]; exact h.c3, fun j => by rw [hf, uf]; exact h.fz j, m1, Nat.zero_le _, m2, fun i hi => by rw [hc _ _ mbb, uc _ _ mcb mpb]; exact h.byte i hi, fun _ => rfl, m3, Or.inr ⟨Nat.succ_le_succ (Nat.zero_le _), by rw [Nat.add_sub_cancel]; exact hkk, m4, m5, m6⟩, by rw [hsz]; exact h.lt, ?_⟩
    rw [hV, brought_block _ _ _ _ _ zb]
    exact (ub 0 zcb zpb).trans h.z
  · refine ⟨by rw [hV, hU]; exact (brought_misc _ _ _ _ _ _ _ _ _).1, by rw [hV, hU]; exact (brought_misc _ _ _ _ _ _ _ _ _).2.1, by rw [hV, hU]; exact (brought_misc _ _ _ _ _ _ _ _ _).2.2, by rw [hsz]; exact Nat.le_refl _, fun g _ hT hg => ?_, v3, fun j => by rw [hf, uf]⟩
    unfold AT at hT
    rw [hV, brought_block _ _ _ _ _ hg]
    exact ub g (fun e => hT (Or.inr (Or.inr (Or.inl e)))) (fun e => hT (Or.inr (Or.inr (Or.inr (Or.inl e)))))
end
end Go.Proofs.YbulkcgfiFmt
