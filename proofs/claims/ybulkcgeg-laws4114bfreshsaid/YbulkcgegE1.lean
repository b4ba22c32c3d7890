import Derived.Test.YbulkcgegD6
namespace Go.Proofs.Ybulkcgeg
open Go.RowKit Go.Maps Go.WideMaps
set_option linter.unusedVariables false
set_option linter.unusedSimpArgs false
def kcnt (keep : Nat → Bool) : Nat → Nat
  | 0 => 0
  | i + 1 => kcnt keep i + if keep i then 1 else 0
def dsum (keep : Nat → Bool) (c : Nat → Int) : Nat → Int
  | 0 => 0
  | i + 1 => dsum keep c i + if keep i then 0 else c i
def tsum (c : Nat → Int) : Nat → Int
  | 0 => 0
  | i + 1 => tsum c i + c i
def bst (keep : Nat → Bool) (lt : Nat → Nat → Bool) : Nat → Option Nat
  | 0 => none
  | i + 1 => if keep i then bst keep lt i else match bst keep lt i with
    | none => some i
    | some j => if lt i j then some i else some j
theorem dsum_succ (keep : Nat → Bool) (c : Nat → Int) (i : Nat) : dsum keep c (i + 1) = dsum keep c i + if keep i then 0 else c i := rfl
theorem tsum_succ (c : Nat → Int) (i : Nat) : tsum c (i + 1) = tsum c i + c i := rfl
theorem kcnt_le (keep : Nat → Bool) : ∀ i, kcnt keep i ≤ i
  | 0 => Nat.le_refl _
  | i + 1 => by have := kcnt_le keep i; unfold kcnt; split <;> omega
theorem kcnt_yes {keep : Nat → Bool} {i : Nat} (h : keep i = true) : kcnt keep (i + 1) = kcnt keep i + 1 := by simp [kcnt, h]
theorem kcnt_no {keep : Nat → Bool} {i : Nat} (h : keep i = false) : kcnt keep (i + 1) = kcnt keep i := by simp [kcnt, h]
theorem bst_lt {keep : Nat → Bool} {lt : Nat → Nat → Bool} : ∀ {i j : Nat}, bst keep lt i = some j → j < i ∧ keep j = false
  | 0, j, h => by simp [bst] at h
  | i + 1, j, h => by
    unfold bst at h
    split at h
    · have := bst_lt h; exact ⟨by omega, this.2⟩
    · rename_i hk
      have hk' : keep i = false := by simpa using hk
      split at h
      · simp at h; subst h; exact ⟨by omega, hk'⟩
      · rename_i j' hj'
        split at h
        · simp at h; subst h; exact ⟨by omega, hk'⟩
        · simp at h; subst h
          have := bst_lt hj'; exact ⟨by omega, this.2⟩
theorem bst_none {keep : Nat → Bool} {lt : Nat → Nat → Bool} : ∀ {i : Nat}, bst keep lt i = none ↔ kcnt keep i = i
  | 0 => by simp [bst, kcnt]
  | i + 1 => by
    have ih := bst_none (keep := keep) (lt := lt) (i := i)
    have hle := kcnt_le keep i
    unfold bst kcnt
    by_cases hk : keep i = true
    · simp only [hk, if_true]; rw [ih]; omega
    · simp only [hk, if_false, Bool.false_eq_true]
      constructor
      · intro h
        split at h
        · cases h
        · split at h <;> cases h
      · intro h; omega
theorem bst_keep {keep : Nat → Bool} {lt : Nat → Nat → Bool} {i : Nat} (h : keep i = true) : bst keep lt (i + 1) = bst keep lt i := by simp [bst, h]
theorem bst_a {keep : Nat → Bool} {lt : Nat → Nat → Bool} {i : Nat} (h : keep i = false) (hb : bst keep lt i = none) : bst keep lt (i + 1) = some i := by simp [bst, h, hb]
theorem bst_b {keep : Nat → Bool} {lt : Nat → Nat → Bool} {i j : Nat} (h : keep i = false) (hb : bst keep lt i = some j) (hl : lt i j = true) : bst keep lt (i + 1) = some i := by simp [bst, h, hb, hl]
theorem bst_c {keep : Nat → Bool} {lt : Nat → Nat → Bool} {i j : Nat} (h : keep i = false) (hb : bst keep lt i = some j) (hl : lt i j = false) : bst keep lt (i + 1) = some j := by simp [bst, h, hb, hl]
theorem dsum_bd {keep : Nat → Bool} {c : Nat → Int} {n : Nat} (hc : ∀ i, i < n → 163 ≤ c i ∧ c i ≤ 300) : ∀ i, i ≤ n → 0 ≤ dsum keep c i ∧ dsum keep c i ≤ tsum c i ∧ tsum c i ≤ 300 * i ∧ dsum keep c i ≤ 300 * i
  | 0, _ => by simp [dsum, tsum]
  | i + 1, h => by
    have ih := dsum_bd (keep := keep) hc i (by omega)
    have := hc i (by omega)
    unfold dsum tsum
    split <;> omega
theorem rem_bd {keep : Nat → Bool} {c : Nat → Int} {n : Nat} (hc : ∀ i, i < n → 163 ≤ c i ∧ c i ≤ 300) : ∀ (d i : Nat), i + d ≤ n → tsum c i - dsum keep c i ≤ tsum c (i + d) - dsum keep c (i + d)
  | 0, i, _ => by simp
  | d + 1, i, h => by
    have ih := rem_bd (keep := keep) hc d i (by omega)
    have := hc (i + d) (by omega)
    rw [show i + (d + 1) = (i + d) + 1 by omega, dsum_succ, tsum_succ]
    split <;> omega
/-- what is left to be taken off is at least the next cost -/
theorem next_bd {keep : Nat → Bool} {c : Nat → Int} {n k : Nat} (hc : ∀ i, i < n → 163 ≤ c i ∧ c i ≤ 300) (hk : k < n) (hno : keep k = false) : c k ≤ tsum c n - dsum keep c k := by
  have h1 := rem_bd (keep := keep) hc (n - (k + 1)) (k + 1) (by omega)
  rw [show k + 1 + (n - (k + 1)) = n by omega] at h1
  have h2 := dsum_bd (keep := keep) hc (k + 1) (by omega)
  have h3 := dsum_bd (keep := keep) hc n (by omega)
  have h4 : dsum keep c (k + 1) = dsum keep c k + c k := by simp [dsum, hno]
  have h5 : ∀ d i, i + d ≤ n → dsum keep c i ≤ dsum keep c (i + d) := by
    intro d
    induction d with
    | zero => intro i _; simp
    | succ d ih => intro i hi; have := ih i (by omega); have := hc (i + d) (by omega); rw [show i + (d + 1) = (i + d) + 1 by omega, dsum_succ]; split <;> omega
  have h6 := h5 (n - (k + 1)) (k + 1) (by omega)
  rw [show k + 1 + (n - (k + 1)) = n by omega] at h6
  omega
def ltI (its : Nat → Item) (i j : Nat) : Bool := lessB (its i).due (its i).seq (its j).due (its j).seq
def keepB (its : Nat → Item) (s : Int) (i : Nat) : Bool := decide (s ≤ (its i).seq)
def fst (f : Nat → Wt) : Option Nat → Wt
  | none => Wt.zero
  | some j => f j
theorem ltW_of {f : Nat → Wt} {its : Nat → Item} {i j : Nat} (hi : (f i).isOf i (its i)) (hj : (f j).isOf j (its j)) : ltW (f i) (f j) = ltI its i j := by
  unfold ltW ltI; rw [hi.due, hi.seq, hj.due, hj.seq]

/-- What the drop is about. -/
structure Cx where
  b : Nat
  o : Nat
  T : Nat
  K : Nat
  nc : Nat
  n : Nat
  m : Nat
  N : Nat
  f : Nat → Wt
  its : Nat → Item
  s : Int
  w : World
def Cx.keep (c : Cx) : Nat → Bool := keepB c.its c.s
def Cx.cost (c : Cx) (i : Nat) : Int := costOf (c.its i)
def Cx.S (c : Cx) (k : Nat) : Prop := (c.K ≤ k ∧ k < c.K + c.nc) ∨ k = c.m ∨ k = c.b
structure Cx.ok (c : Cx) : Prop where
  nc4 : c.nc ≤ 4
  n4 : c.n ≤ 4096
  nn : c.n ≤ c.nc * 1024
  TK : c.T < c.K
  Km : c.K + c.nc ≤ c.m
  Kb : c.K + c.nc ≤ c.b
  bm : c.b ≠ c.m
  lt : c.b < c.w.heap.size
  mlt : c.m < c.w.heap.size
  Klt : c.K + c.nc ≤ c.w.heap.size
  of_ : ∀ i, i < c.n → (c.f i).isOf i (c.its i)
  its : ∀ i, i < c.n → (c.its i).ok
structure DS (c : Cx) (wr : World) (k : Nat) (f' : Nat → Wt) (D : DataW Unit) (t : Wt) : Prop where
  heap : HeapAt wr c.T c.K c.nc f'
  rest : ∀ j, k ≤ j → f' j = c.f j
  gat : ∃ g : Nat → Nat, (∀ j, j < kcnt c.keep k → g j < k ∧ c.keep (g j) = true ∧ f' j = c.f (g j)) ∧ (∀ j j', j < j' → j' < kcnt c.keep k → g j < g j')
  first : WtAt wr c.w.heap.size 0 t
  ffz : ∀ j, wr.frozen? ⟨c.w.heap.size, j, none⟩ = false
  c0 : wr.cell? ⟨c.b, c.o, none⟩ = some (.slice (some ⟨c.T, 0, none⟩) c.nc c.nc)
  c1 : wr.cell? ⟨c.b, c.o + 1, none⟩ = some (.int .i64 c.n)
  c2 : wr.cell? ⟨c.b, c.o + 2, none⟩ = some (.map (some c.m))
  c3 : wr.cell? ⟨c.b, c.o + 3, none⟩ = some (.int .i64 (tsum c.cost c.n - dsum c.keep c.cost k))
  coth : ∀ j, c.o + 4 ≤ j → wr.cell? ⟨c.b, j, none⟩ = c.w.cell? ⟨c.b, j, none⟩
  bfz : ∀ j, wr.frozen? ⟨c.b, j, none⟩ = false
  own : OwnsIds wr c.m c.N D
  has : ∀ i, i < c.n → Maps.has D (idLit (idOf i)) = (decide (k ≤ i) || c.keep i)
  size : Maps.size D + k = c.n + kcnt c.keep k
  fr : Fr c.S c.w wr
  sz : c.w.heap.size < wr.heap.size
theorem ownsIds_below {w w' : World} {m n : Nat} {D : DataW Unit} (h : OwnsIds w m n D) (hb : Below w.heap.size w w') : OwnsIds w' m n D := by
  obtain ⟨es, cl, h1, h2, h3, h4⟩ := h
  have : m < w.heap.size := by
    rcases Nat.lt_or_ge m w.heap.size with h | h
    · exact h
    · simp [Array.getElem?_eq_none h] at h1
  exact ⟨es, cl, by rw [hb.block m this]; exact h1, h2, h3, h4⟩
theorem DS.below {c : Cx} {wr w2 : World} {k : Nat} {f' : Nat → Wt} {D : DataW Unit} {t : Wt} (h : DS c wr k f' D t) (hc : c.ok) (hb : Below wr.heap.size wr w2) : DS c w2 k f' D t := by
  have hs := h.fr.size
  have hl := hc.lt
  have cb : ∀ j, w2.cell? ⟨c.b, j, none⟩ = wr.cell? ⟨c.b, j, none⟩ := fun j => hb.cell (by show c.b < _; omega)
  have fb : ∀ j, w2.frozen? ⟨c.b, j, none⟩ = wr.frozen? ⟨c.b, j, none⟩ := fun j => hb.frozen (by show c.b < _; omega)
  exact ⟨h.heap.below hb, h.rest, h.gat, h.first.below hb, fun j => by rw [hb.frozen (by exact h.sz)]; exact h.ffz j, (cb _).trans h.c0, (cb _).trans h.c1, (cb _).trans h.c2, (cb _).trans h.c3, fun j hj => (cb j).trans (h.coth j hj), fun j => (fb j).trans (h.bfz j),
    ownsIds_below h.own hb, h.has, h.size, h.fr.trans (Fr.of_below hb), by have := hb.size; have := h.sz; omega⟩
theorem DS.drew {c : Cx} {wr : World} {k : Nat} {f' : Nat → Wt} {D : DataW Unit} {t : Wt} (h : DS c wr k f' D t) (hc : c.ok) : DS c wr.drew k f' D t := h.below hc ((Below.refl _ _).drew)
/-- THE KEPT ONE: its waiter goes to the next place. -/
theorem DS.keepStep {c : Cx} {wr : World} {k : Nat} {f' : Nat → Wt} {D : DataW Unit} {t : Wt} (h : DS c wr k f' D t) (hc : c.ok) (hk : k < c.n) (hy : c.keep k = true) :
    DS c (putWt wr (c.K + kcnt c.keep k / 1024) (kcnt c.keep k % 1024 * 5) (c.f k)) (k + 1) (fun j => if j = kcnt c.keep k then c.f k else f' j) D t := by
  obtain ⟨h1, h2, h3, h4, h5, h6, h7, h8, h9, h10, h11, h12⟩ := hc
  have hle := kcnt_le c.keep k
  have hsz := h.sz
  have cb : ∀ b j, (b < c.K ∨ c.K + c.nc ≤ b) → (putWt wr (c.K + kcnt c.keep k / 1024) (kcnt c.keep k % 1024 * 5) (c.f k)).cell? ⟨b, j, none⟩ = wr.cell? ⟨b, j, none⟩ := fun b j hb => putWt_other _ _ _ _ _ _ (by omega)
  have hd : dsum c.keep c.cost (k + 1) = dsum c.keep c.cost k := by simp [dsum, hy]
  refine ⟨h.heap.put h4 _ (by omega) _, fun j hj => ?_, ?_, ?_, fun j => by rw [putWt_frozen]; exact h.ffz j, (cb _ _ (Or.inr h6)).trans h.c0, (cb _ _ (Or.inr h6)).trans h.c1, (cb _ _ (Or.inr h6)).trans h.c2, ?_, fun j hj => (cb _ _ (Or.inr h6)).trans (h.coth j hj), fun j => by rw [putWt_frozen]; exact h.bfz j, ?_, fun i hi => ?_, ?_, ?_, by simpa using hsz⟩
  · rw [if_neg (by omega)]; exact h.rest j (by omega)
  · obtain ⟨g, g1, g2⟩ := h.gat
    refine ⟨fun j => if j = kcnt c.keep k then k else g j, fun j hj => ?_, fun j j' hj hj' => ?_⟩
    · rw [kcnt_yes hy] at hj
      by_cases e : j = kcnt c.keep k
      · simp only [e, if_true]; exact ⟨by omega, hy, trivial⟩
      · simp only [e, if_false]
        have := g1 j (by omega)
        exact ⟨by omega, this.2.1, this.2.2⟩
    · rw [kcnt_yes hy] at hj'
      by_cases e' : j' = kcnt c.keep k
      · simp only [e', if_true, show ¬ j = kcnt c.keep k by omega, if_false]; exact (g1 j (by omega)).1
      · simp only [e', if_false, show ¬ j = kcnt c.keep k by omega]; exact g2 j j' hj (by omega)
  · exact h.first.of_eq fun j hj => cb _ _ (Or.inr (by omega))
  · rw [hd]; exact (cb _ _ (Or.inr h6)).trans h.c3
  · obtain ⟨es, cl, a1, a2⟩ := h.own
    refine ⟨es, cl, ?_, a2⟩
    unfold putWt
    rw [Below.heap_setCell, Below.heap_setCell, Below.heap_setCell, Below.heap_setCell, Below.heap_setCell]
    · exact a1
    all_goals (show c.m ≠ _; simp only; omega)
  · rw [h.has i hi]
    by_cases e : i = k
    · subst e; simp [hy]
    · have : decide (k ≤ i) = decide (k + 1 ≤ i) := by simp; omega
      rw [this]
  · have := h.size; rw [kcnt_yes hy]; omega
  · exact h.fr.put (Or.inl (Or.inl (by omega)))
theorem DS.putFirst {c : Cx} {wr : World} {k : Nat} {f' : Nat → Wt} {D : DataW Unit} {t : Wt} (h : DS c wr k f' D t) (hc : c.ok) (u : Wt) : DS c (putWt wr c.w.heap.size 0 u) k f' D u := by
  obtain ⟨h1, h2, h3, h4, h5, h6, h7, h8, h9, h10, h11, h12⟩ := hc
  have cb : ∀ b j, b ≠ c.w.heap.size → (putWt wr c.w.heap.size 0 u).cell? ⟨b, j, none⟩ = wr.cell? ⟨b, j, none⟩ := fun b j hb => putWt_other _ _ _ _ _ _ (Or.inl hb)
  refine ⟨⟨fun i hi => (cb _ _ (by omega)).trans (h.heap.tab i hi), fun i o hi => by rw [putWt_frozen]; exact h.heap.thaw i o hi, fun i hi => (h.heap.at_ i hi).of_eq fun j hj => cb _ _ (by omega)⟩, h.rest, h.gat, putWt_same _ _ _ _ _ h.first, fun j => by rw [putWt_frozen]; exact h.ffz j,
    (cb _ _ (by omega)).trans h.c0, (cb _ _ (by omega)).trans h.c1, (cb _ _ (by omega)).trans h.c2, (cb _ _ (by omega)).trans h.c3, fun j hj => (cb _ _ (by omega)).trans (h.coth j hj), fun j => by rw [putWt_frozen]; exact h.bfz j, ?_, h.has, h.size, h.fr.put (Or.inr (Nat.le_refl _)), by simpa using h.sz⟩
  obtain ⟨es, cl, a1, a2⟩ := h.own
  refine ⟨es, cl, ?_, a2⟩
  unfold putWt
  rw [Below.heap_setCell, Below.heap_setCell, Below.heap_setCell, Below.heap_setCell, Below.heap_setCell]
  · exact a1
  all_goals (show c.m ≠ _; simp only; omega)
theorem idOf_ne {i j : Nat} (hi : i < 4096) (hj : j < 4096) (h : i ≠ j) : idLit (idOf i) ≠ idLit (idOf j) := by
  intro e
  unfold idLit at e
  injection e with e
  simp only [idOf, strOfNums_data, idNums, List.map_cons, List.map_nil, List.cons.injEq, and_true] at e
  obtain ⟨e1, e2, e3⟩ := e
  have k1 := congrArg UInt8.toNat e1
  have k2 := congrArg UInt8.toNat e2
  have k3 := congrArg UInt8.toNat e3
  simp only [UInt8.toNat_ofNat'] at k1 k2 k3
  omega
theorem DS.forget {c : Cx} {wr w3 : World} {k : Nat} {f' : Nat → Wt} {D : DataW Unit} {t : Wt} (h : DS c wr k f' D t) (hc : c.ok) (hk : k < c.n) (hno : c.keep k = false)
    (ho : OwnsIds w3 c.m c.N (D.del (idLit (idOf k)))) (h3 : w3.cell? ⟨c.b, c.o + 3, none⟩ = some (.int .i64 (tsum c.cost c.n - dsum c.keep c.cost k - c.cost k))) (hcb : ∀ j, j ≠ c.o + 3 → w3.cell? ⟨c.b, j, none⟩ = wr.cell? ⟨c.b, j, none⟩)
    (hfb : ∀ j, w3.frozen? ⟨c.b, j, none⟩ = wr.frozen? ⟨c.b, j, none⟩) (hfr : Fr (fun i => i = c.m ∨ i = c.b) wr w3) : DS c w3 (k + 1) f' (D.del (idLit (idOf k))) t := by
  obtain ⟨q1, q2, q3, q4, q5, q6, q7, q8, q9, q10, q11, q12⟩ := hc
  have hsz := h.sz
  have hs2 := hfr.size
  have blk : ∀ b, b < wr.heap.size → b ≠ c.m → b ≠ c.b → w3.heap[b]? = wr.heap[b]? := fun b hb h1 h2 => hfr.block b hb (fun e => by rcases e with e | e; exact h1 e; exact h2 e)
  have cb : ∀ b j v, b ≠ c.m → b ≠ c.b → wr.cell? ⟨b, j, none⟩ = some v → w3.cell? ⟨b, j, none⟩ = some v := fun b j v h1 h2 hv => by
    rw [World.cell?_of_block (w := wr) (blk b (World.block_lt_of_cell? _ _ hv) h1 h2)]; exact hv
  have cw : ∀ b o t, b ≠ c.m → b ≠ c.b → WtAt wr b o t → WtAt w3 b o t := fun b o t h1 h2 ht => ⟨cb _ _ _ h1 h2 ht.c0, cb _ _ _ h1 h2 ht.c1, cb _ _ _ h1 h2 ht.c2, cb _ _ _ h1 h2 ht.c3, cb _ _ _ h1 h2 ht.c4⟩
  have hd : dsum c.keep c.cost (k + 1) = dsum c.keep c.cost k + c.cost k := by simp [dsum, hno]
  have htidy := h.own.tidy klaw
  have hmap := h.own.isMap
  refine ⟨⟨fun i hi => cb _ _ _ (by omega) (by omega) (h.heap.tab i hi), fun i o hi => ?_, fun i hi => cw _ _ _ (by omega) (by omega) (h.heap.at_ i hi)⟩, fun j hj => h.rest j (by omega), ?_, cw _ _ _ (by omega) (by omega) h.first, fun j => ?_,
    (hcb _ (by omega)).trans h.c0, (hcb _ (by omega)).trans h.c1, (hcb _ (by omega)).trans h.c2, by rw [hd, h3]; congr 2; omega, fun j hj => (hcb _ (by omega)).trans (h.coth j hj), fun j => (hfb j).trans (h.bfz j), ho, fun i hi => ?_, ?_, h.fr.trans ⟨hfr.os, hfr.tape, hfr.output, hfr.size, fun i hi hn => hfr.block i hi (fun e => hn (Or.inr e))⟩, by omega⟩
  · rw [World.frozen?_of_block (w := wr) (blk (c.K + i) (by have := h.fr.size; omega) (by omega) (by omega))]; exact h.heap.thaw i o hi
  · rw [kcnt_no hno]
    obtain ⟨g, g1, g2⟩ := h.gat
    exact ⟨g, fun j hj => ⟨by have := (g1 j hj).1; omega, (g1 j hj).2⟩, g2⟩
  · rw [World.frozen?_of_block (w := wr) (blk c.w.heap.size (by omega) (by omega) (by omega))]; exact h.ffz j
  · by_cases e : i = k
    · subst e; rw [has_del_same]; simp [hno]
    · rw [has_del_other (idOf_ne (by omega) (by omega) e), h.has i hi]
      have : decide (k ≤ i) = decide (k + 1 ≤ i) := by simp; omega
      rw [this]
  · have h1 := size_del (k := idLit (idOf k)) htidy
    rw [h.has k hk] at h1
    have := h.size
    simp at h1
    rw [kcnt_no hno]; omega
end Go.Proofs.Ybulkcgeg
