import Derived.Test.YbulkcggyDoorK13
namespace Go.Proofs.YbulkcggyDoor
open Go.RowKit
set_option linter.unusedVariables false
set_option linter.unusedSectionVars false
set_option linter.unusedSimpArgs false
set_option maxRecDepth 100000
/-- The law's own table of the best. -/
structure BA (Wb : World) (bb : Nat) (f : Nat → Int) (wr : World) : Prop where
  fw : Fw (fun g => g = bb) Wb wr
  c : ∀ x, x < 30 → wr.cell? ⟨bb, x, none⟩ = some (.int .i64 (f x))
  fz : ∀ x, wr.frozen? ⟨bb, x, none⟩ = false
def fset (f : Nat → Int) (p : Nat) (v : Int) : Nat → Int := fun x => if x = p then v else f x
theorem BA.set {Wb : World} {bb : Nat} {f : Nat → Int} {wr : World} (h : BA Wb bb f wr) (p : Nat) (hp : p < 30) (v : Int) : BA Wb bb (fset f p v) (wr.setCell ⟨bb, p, none⟩ (.int .i64 v)) := by
  refine ⟨h.fw.trans ⟨rfl, rfl, rfl, by simp, fun g _ hg => Below.heap_setCell _ _ _ _ (fun e => hg (by rw [e]))⟩, fun x hx => ?_, fun x => by rw [World.frozen?_setCell]; exact h.fz x⟩
  unfold fset
  by_cases he : x = p
  · subst he
    rw [if_pos rfl]
    exact World.cell?_setCell_same _ _ _ (h.c x hx)
  · rw [if_neg he, World.cell?_setCell_other _ _ _ _ (by intro e; injection e with _ e _; omega)]
    exact h.c x hx
theorem BA.below {Wb : World} {bb : Nat} {f : Nat → Int} {wr w' : World} (h : BA Wb bb f wr) (hb : Below wr.heap.size wr w') : BA Wb bb f w' := by
  have l : bb < wr.heap.size := World.block_lt_of_cell? _ _ (h.c 0 (by omega))
  exact ⟨h.fw.trans (Fw.of_below hb), fun x hx => by rw [hb.cell (by exact l)]; exact h.c x hx, fun x => by rw [hb.frozen (by exact l)]; exact h.fz x⟩
/-- The table as it is made. -/
structure P9 (w1 Wb : World) (bb : Nat) : Prop where
  eq : Wb = w1.alloc (.cells #[.int .i64 0, .int .i64 0, .int .i64 0, .int .i64 0, .int .i64 0, .int .i64 0, .int .i64 0, .int .i64 0, .int .i64 0, .int .i64 0, .int .i64 0, .int .i64 0, .int .i64 0, .int .i64 0, .int .i64 0, .int .i64 0, .int .i64 0, .int .i64 0, .int .i64 0, .int .i64 0, .int .i64 0, .int .i64 0, .int .i64 0, .int .i64 0, .int .i64 0, .int .i64 0, .int .i64 0, .int .i64 0, .int .i64 0, .int .i64 0] 47)
  ebb : bb = w1.heap.size
  ba : BA Wb bb (fun _ => 0) Wb
  bel : Below w1.heap.size w1 Wb
theorem P9.mk' (w1 : World) : ∃ Wb bb, P9 w1 Wb bb := by
  refine ⟨_, _, rfl, rfl, ⟨Fw.refl _ _, fun x hx => ?_, fun x => ?_⟩, (Below.refl _ _).alloc (Nat.le_refl _) _⟩
  · have h := heap_alloc_new w1 (.cells #[.int .i64 0, .int .i64 0, .int .i64 0, .int .i64 0, .int .i64 0, .int .i64 0, .int .i64 0, .int .i64 0, .int .i64 0, .int .i64 0, .int .i64 0, .int .i64 0, .int .i64 0, .int .i64 0, .int .i64 0, .int .i64 0, .int .i64 0, .int .i64 0, .int .i64 0, .int .i64 0, .int .i64 0, .int .i64 0, .int .i64 0, .int .i64 0, .int .i64 0, .int .i64 0, .int .i64 0, .int .i64 0, .int .i64 0, .int .i64 0] 47)
    simp only [World.cell?, h]
    have : ∀ x : Nat, x < 30 → (List.replicate 30 (Value.int .i64 0))[x]? = some (.int .i64 0) := fun x hx => by rw [List.getElem?_replicate, if_pos hx]
    have h2 := this x hx
    simp only [List.replicate] at h2
    simpa using h2
  · have h := heap_alloc_new w1 (.cells #[.int .i64 0, .int .i64 0, .int .i64 0, .int .i64 0, .int .i64 0, .int .i64 0, .int .i64 0, .int .i64 0, .int .i64 0, .int .i64 0, .int .i64 0, .int .i64 0, .int .i64 0, .int .i64 0, .int .i64 0, .int .i64 0, .int .i64 0, .int .i64 0, .int .i64 0, .int .i64 0, .int .i64 0, .int .i64 0, .int .i64 0, .int .i64 0, .int .i64 0, .int .i64 0, .int .i64 0, .int .i64 0, .int .i64 0, .int .i64 0] 47)
    simp only [World.frozen?, h]
    simp
def NegTo (f : Nat → Int) (m : Nat) : Prop := ∀ x, x < m → f x = -1
theorem NegTo.step {f : Nat → Int} {m : Nat} (h : NegTo f m) : NegTo (fset f m (-1)) (m + 1) := fun x hx => by
  unfold fset
  split
  · rfl
  · exact h x (by omega)
/-- The place of a key in the table. -/
def kx (κ : Key) : Nat := κ.1 * 6 + κ.2.1 * 2 + κ.2.2
/-- What the table says of a key. -/
def bi (its : Nat → It) (n : Nat) (κ : Key) : Int := match best its n κ with | none => -1 | some j => j
/-- The table behind n items. -/
def Tab (its : Nat → It) (n : Nat) (f : Nat → Int) : Prop := ∀ e k r, e < 5 → k < 3 → r < 2 → f (kx (e, k, r)) = bi its n (e, k, r)
theorem Tab.zero {its : Nat → It} {f : Nat → Int} (h : NegTo f 30) : Tab its 0 f := fun e k r he hk hr => by
  rw [h _ (by unfold kx; simp only; omega)]; rfl
theorem kx_inj {e k r e' k' r' : Nat} (hk : k < 3) (hr : r < 2) (hk' : k' < 3) (hr' : r' < 2) (h : kx (e, k, r) = kx (e', k', r')) : e = e' ∧ k = k' ∧ r = r' := by
  unfold kx at h; simp only at h; omega
theorem Tab.same {its : Nat → It} {n : Nat} {f : Nat → Int} (h : Tab its n f) (hb : ∀ κ, best its (n + 1) κ = best its n κ) : Tab its (n + 1) f := fun e k r he hk hr => by
  rw [h e k r he hk hr]; unfold bi; rw [hb]
theorem Tab.take {its : Nat → It} {n : Nat} {f : Nat → Int} (h : Tab its n f) (he : (its n).elig = true) (h2 : ∀ j, best its n (its n).key = some j → (its j).qt ≤ (its n).qt) : Tab its (n + 1) (fset f (kx (its n).key) n) := fun e k r h1 hk hr => by
  unfold fset
  by_cases hx : kx (e, k, r) = kx (its n).key
  · rw [if_pos hx]
    have hk2 := (its n).kk_lt
    have hr2 := (its n).rr_lt
    obtain ⟨a, b, c⟩ := kx_inj hk hr hk2 hr2 hx
    have : ((e, k, r) : Key) = (its n).key := by unfold It.key; rw [a, b, c]
    unfold bi
    rw [this, best_take he h2]
  · rw [if_neg hx, h e k r h1 hk hr]
    unfold bi
    rw [best_other (fun e' => hx (by rw [e']))]
/-- The keys that are wanted of the expiry e, as far as place c. -/
def kw (its : Nat → It) (n : Nat) (stale : Int) (e c : Nat) : List Key := ((List.range c).map (fun d => ((e, d / 2, d % 2) : Key))).filter (fun κ => (best its n κ).isSome && us its n stale κ)
def wvals (its : Nat → It) (n : Nat) (l : List Key) : List Value := l.map (fun κ => Value.int .i64 (bj its n κ))
theorem kw_succ (its : Nat → It) (n : Nat) (stale : Int) (e c : Nat) : kw its n stale e (c + 1) = kw its n stale e c ++ (if (best its n (e, c / 2, c % 2)).isSome && us its n stale (e, c / 2, c % 2) then [(e, c / 2, c % 2)] else []) := by
  unfold kw
  rw [List.range_succ, List.map_append, List.filter_append]
  simp only [List.map_cons, List.map_nil, List.filter_cons, List.filter_nil]
theorem kw_skip {its : Nat → It} {n : Nat} {stale : Int} {e c : Nat} (h : ((best its n (e, c / 2, c % 2)).isSome && us its n stale (e, c / 2, c % 2)) = false) : kw its n stale e (c + 1) = kw its n stale e c := by rw [kw_succ, h]; simp
theorem kw_take {its : Nat → It} {n : Nat} {stale : Int} {e c : Nat} (h : ((best its n (e, c / 2, c % 2)).isSome && us its n stale (e, c / 2, c % 2)) = true) : kw its n stale e (c + 1) = kw its n stale e c ++ [(e, c / 2, c % 2)] := by rw [kw_succ, h]; simp
theorem kw_nodup (its : Nat → It) (n : Nat) (stale : Int) (e c : Nat) : (kw its n stale e c).Nodup := by
  unfold kw
  have h : ((List.range c).map (fun d => ((e, d / 2, d % 2) : Key))).Nodup := List.pairwise_map.2 (List.nodup_range.imp (fun {a b} hne e => hne (by
    injection e with _ e
    injection e with e1 e2
    omega)))
  exact h.filter _
theorem kw_mem {its : Nat → It} {n : Nat} {stale : Int} {e : Nat} {κ : Key} : κ ∈ kw its n stale e 6 ↔ κ.1 = e ∧ (best its n κ).isSome = true ∧ us its n stale κ = true := by
  unfold kw
  rw [List.mem_filter, List.mem_map]
  constructor
  · rintro ⟨⟨d, hd, rfl⟩, h⟩
    simp at h
    exact ⟨rfl, h.1, h.2⟩
  · rintro ⟨h1, h2, h3⟩
    obtain ⟨j, hj⟩ := Option.isSome_iff_exists.1 h2
    have hk := (best_some hj).2.2
    have a1 := (its j).kk_lt
    have a2 := (its j).rr_lt
    obtain ⟨e', k, r⟩ := κ
    unfold It.key at hk
    simp only [Prod.mk.injEq] at hk
    refine ⟨⟨k * 2 + r, List.mem_range.2 (by omega), ?_⟩, by simp [h2, h3]⟩
    simp only at h1
    rw [h1, show (k * 2 + r) / 2 = k by omega, show (k * 2 + r) % 2 = r by omega]
theorem kw_len (its : Nat → It) (n : Nat) (stale : Int) (e c : Nat) : (kw its n stale e c).length ≤ c := by
  unfold kw
  exact Nat.le_trans (List.length_filter_le _ _) (by simp)
theorem info3 : (Ybad.prog.info? 3).map (fun i => (i.zero, i.size, i.bytes)) = some (some (.int .i64 0), 1, 8) := by kernel_rfl
theorem append48 (W : World) (B : Nat) (v : Value) (k : Nat) (ys : List Value) (hown : W.ownsRow B 3 1 v k ys) (x : Int) (hk : k ≤ 4096) (hle : B ≤ W.heap.size) :
    ∃ v' W2, (Builtin.append_ #[48, 48] 48 #[v, .slice (some ⟨W.heap.size, 0, none⟩) 1 1]).run Ybad.prog (W.alloc (.cells #[.int .i64 x] 3)) = .ok v' W2 ∧ W2.ownsRow B 3 1 v' (k + 1) (ys ++ [.int .i64 x]) ∧ Below B W W2 := by
  obtain ⟨i0, hi, hz0, hz1, hz2⟩ := info_parts info3
  obtain ⟨v', W2, h1, h2, h3, _⟩ := run_append_own (P := Ybad.prog) (W.alloc (.cells #[.int .i64 x] 3)) B 48 48 3 i0 _ 1 8 Ybad.underlying48 hi hz0 hz1 hz2 rfl (by decide) v k _ (hown.alloc _) ⟨W.heap.size, 0, none⟩ 1 1 [.int .i64 x] rfl (fun j u hj => by
    match j, hj with
    | 0, hj => simp at hj; subst hj; simp [Addr.add]) (fun u hu => by simp at hu; subst hu; rfl) (by unfold maxLen; omega) (by omega) (by simp; omega)
  refine ⟨v', W2, h1, h2, ⟨h3.os, h3.tape, h3.output, by have := h3.size; simp at this; omega, fun g hg => ?_⟩⟩
  rw [h3.block g (by simp; omega) (fun e => by have := (hown.lt g e.symm).1; omega), heap_alloc_old _ _ (by omega)]
end Go.Proofs.YbulkcggyDoor
