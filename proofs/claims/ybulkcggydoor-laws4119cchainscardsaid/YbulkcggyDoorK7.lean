import Derived.Test.YbulkcggyDoorK6
namespace Go.Proofs.YbulkcggyDoor
open Go.RowKit
set_option linter.unusedVariables false
set_option linter.unusedSectionVars false
set_option linter.unusedSimpArgs false
set_option maxRecDepth 100000
/-- Below B only the blocks of S have changed. -/
structure Fb (B : Nat) (S : Nat → Prop) (w w' : World) : Prop where
  os : w'.os = w.os
  tape : w'.tape = w.tape
  output : w'.output = w.output
  size : w.heap.size ≤ w'.heap.size
  block : ∀ g, g < B → ¬ S g → w'.heap[g]? = w.heap[g]?
theorem Fb.refl (B : Nat) (S : Nat → Prop) (w : World) : Fb B S w w := ⟨rfl, rfl, rfl, Nat.le_refl _, fun _ _ _ => rfl⟩
theorem Fb.trans {B : Nat} {S : Nat → Prop} {u v w : World} (h : Fb B S u v) (k : Fb B S v w) : Fb B S u w :=
  ⟨k.os.trans h.os, k.tape.trans h.tape, k.output.trans h.output, Nat.le_trans h.size k.size, fun g h1 h2 => (k.block g h1 h2).trans (h.block g h1 h2)⟩
theorem Fb.of_below {B : Nat} {S : Nat → Prop} {w w' : World} (h : Below B w w') : Fb B S w w' := ⟨h.os, h.tape, h.output, h.size, fun g h1 _ => h.block g h1⟩
theorem Fb.setB {B : Nat} {S : Nat → Prop} {w : World} (r : Nat) (o : Obj) (h : S r) : Fb B S w (setB w r o) := ⟨rfl, rfl, rfl, by simp, fun g _ h2 => setB_other o (fun e => h2 (e ▸ h))⟩
theorem Fb.cell {B : Nat} {S : Nat → Prop} {w w' : World} (h : Fb B S w w') {a : Addr} (ha : a.block < B) (hS : ¬ S a.block) : w'.cell? a = w.cell? a := World.cell?_of_block (h.block _ ha hS)
theorem Fb.grown {B : Nat} {S : Nat → Prop} {w w' : World} {row : Option Nat} (h : w.grownBy w' row) (hB : B ≤ w.heap.size) (hr : ∀ k, row = some k → B ≤ k) : Fb B S w w' :=
  ⟨h.os, h.tape, h.output, h.size, fun g h1 _ => h.block g (by omega) (fun e => by have := hr g e.symm; omega)⟩
/-- Two own rows that differ at some place lie in other blocks. -/
theorem own_ne {w : World} {B B' n n' size size' : Nat} {e e' : TypeId} {v v' : Value} {xs xs' : List Value} (h : w.ownsRow B e size v n xs) (h' : w.ownsRow B' e' size' v' n' xs') (j : Nat) (a b : Value) (ha : xs[j]? = some a) (hb : xs'[j]? = some b) (hne : a ≠ b) : v.ownBlock ≠ v'.ownBlock := by
  obtain ⟨l1, (⟨rfl, h0⟩ | ⟨g1, c1, cur, rfl, _, h3, _, _, _, h7⟩)⟩ := h
  · have : xs = [] := List.eq_nil_of_length_eq_zero (by rw [l1, h0]; simp)
    rw [this] at ha
    simp at ha
  obtain ⟨l2, (⟨rfl, h0'⟩ | ⟨g2, c2, cur', rfl, _, h3', _, _, _, h7'⟩)⟩ := h'
  · simp [Value.ownBlock]
  intro hg
  simp [Value.ownBlock] at hg
  subst hg
  rw [h3] at h3'
  injection h3' with h3'
  injection h3' with q1 q2 _
  subst q1
  rw [← h7] at ha
  rw [← h7'] at hb
  rw [List.getElem?_take] at ha hb
  split at ha
  · split at hb
    · rw [ha] at hb
      injection hb with hb
      exact hne hb
    · cases hb
  · cases ha
theorem own_setB {w : World} {B n size r : Nat} {e : TypeId} {v : Value} {xs : List Value} (h : w.ownsRow B e size v n xs) (hr : r < B) (o : Obj) : (setB w r o).ownsRow B e size v n xs :=
  h.kept (row := some r) ⟨rfl, rfl, rfl, by simp, fun k _ hk => setB_other o (fun e => hk (by rw [e]))⟩ (by
    cases hv : v.ownBlock with
    | none => exact Or.inl rfl
    | some g => exact Or.inr (fun e => by injection e with e; have := (h.lt g hv).1; omega))
section
variable (its : Nat → It) (n : Nat) (stale : Int)
/-- The place of the quote that is kept at κ. -/
def bj (κ : Key) : Nat := (best its n κ).getD 0
/-- Is it usable? -/
def us (κ : Key) : Bool := decide (-(its (bj its n κ)).qt ≤ stale) && decide (0 < (its (bj its n κ)).bid)
/-- The keys of the chain of the expiry e, in the order of their coming. -/
def ch (dn : List Key) (e : Nat) : List Key := dn.filter (fun κ => decide (κ.1 = e) && us its n stale κ)
def flat (l : List Key) : List Value := l.flatMap (fun κ => qc (its (bj its n κ)) (bj its n κ))
/-- The quotes by expiry. -/
structure Grp (B m2 : Nat) (dn : List Key) (xs : List Nat) (sv : Nat → Value) (wr : World) : Prop where
  map : MapAt wr m2 tval sv xs
  nd : xs.Nodup
  mem : ∀ e, e ∈ xs ↔ ∃ κ ∈ dn, κ.1 = e ∧ us its n stale κ = true
  own : ∀ e ∈ xs, wr.ownsRow B 42 14 (sv e) (ch its n stale dn e).length (flat its n (ch its n stale dn e))
  bst : ∀ κ ∈ dn, (best its n κ).isSome = true
  le : B ≤ wr.heap.size
end
variable {its : Nat → It} {n : Nat} {stale : Int} {B m2 : Nat} {dn : List Key} {xs : List Nat} {sv : Nat → Value} {wr : World}
theorem ee_of {κ : Key} (h : (best its n κ).isSome = true) : (its (bj its n κ)).ee = κ.1 := by
  obtain ⟨j, hj⟩ := Option.isSome_iff_exists.1 h
  have := (best_some hj).2.2
  unfold bj
  rw [hj, Option.getD_some, ← this]
  rfl
theorem ch_skip {κ : Key} (h : us its n stale κ = false) (e : Nat) : ch its n stale (dn ++ [κ]) e = ch its n stale dn e := by simp [ch, List.filter_append, h]
theorem ch_other {κ : Key} {e : Nat} (h : κ.1 ≠ e) : ch its n stale (dn ++ [κ]) e = ch its n stale dn e := by simp [ch, List.filter_append, h]
theorem ch_take {κ : Key} (h : us its n stale κ = true) : ch its n stale (dn ++ [κ]) κ.1 = ch its n stale dn κ.1 ++ [κ] := by simp [ch, List.filter_append, h]
theorem Grp.five (h : Grp its n stale B m2 dn xs sv wr) {e : Nat} (he : e ∈ xs) : (flat its n (ch its n stale dn e))[5]? = some (.int .i64 (xp e)) := by
  obtain ⟨κ, h1, h2, h3⟩ := (h.mem e).1 he
  have hm : κ ∈ ch its n stale dn e := by unfold ch; rw [List.mem_filter]; exact ⟨h1, by simp [h2, h3]⟩
  cases hc : ch its n stale dn e with
  | nil => rw [hc] at hm; cases hm
  | cons a l =>
    have ha : a ∈ ch its n stale dn e := by rw [hc]; simp
    unfold ch at ha
    rw [List.mem_filter] at ha
    have he2 : a.1 = e := by have := ha.2; simp at this; exact this.1
    have := ee_of (h.bst a ha.1)
    simp [flat, qc, this, he2]
theorem Grp.skip (h : Grp its n stale B m2 dn xs sv wr) {κ : Key} (hu : us its n stale κ = false) (hb : (best its n κ).isSome = true) : Grp its n stale B m2 (dn ++ [κ]) xs sv wr := by
  refine ⟨h.map, h.nd, fun e => ?_, fun e he => by rw [ch_skip hu]; exact h.own e he, fun κ' hk => ?_, h.le⟩
  · rw [h.mem e]
    constructor
    · rintro ⟨κ', h1, h2⟩; exact ⟨κ', by simp [h1], h2⟩
    · rintro ⟨κ', h1, h2, h3⟩
      simp at h1
      rcases h1 with h1 | rfl
      · exact ⟨κ', h1, h2, h3⟩
      · rw [hu] at h3; cases h3
  · simp at hk
    rcases hk with hk | rfl
    · exact h.bst _ hk
    · exact hb
theorem Grp.kept {w' : World} (h : Grp its n stale B m2 dn xs sv wr) (hb : Below wr.heap.size wr w') (hm : m2 < B) : Grp its n stale B m2 dn xs sv w' :=
  ⟨by unfold MapAt; rw [hb.block m2 (by have := h.le; omega)]; exact h.map, h.nd, h.mem, fun e he => (h.own e he).kept (row := none) ⟨hb.os, hb.tape, hb.output, hb.size, fun k hk _ => hb.block k hk⟩ (by
    cases (sv e).ownBlock with
    | none => exact Or.inl rfl
    | some g => exact Or.inr (by simp)), h.bst, Nat.le_trans h.le hb.size⟩
theorem Grp.setB (h : Grp its n stale B m2 dn xs sv wr) (r : Nat) (o : Obj) (hr : r < B) (hne : r ≠ m2) : Grp its n stale B m2 dn xs sv (setB wr r o) :=
  ⟨by unfold MapAt; rw [setB_other o (Ne.symm hne)]; exact h.map, h.nd, h.mem, fun e he => own_setB (h.own e he) hr o, h.bst, by simp; exact h.le⟩
theorem info42 : (Ybad.prog.info? 42).map (fun i => (i.zero, i.size, i.bytes)) = some (some (.agg #[.int .u64 0, .int .i64 0, .pointer none, .string ⟨#[]⟩, .int .u64 0, .int .i64 0, .pointer none, .int .i64 0, .int .i64 0, .int .i64 0, .int .i64 0, .int .i64 0, .int .i64 0, .int .i64 0]), 14, 120) := by kernel_rfl
theorem zero34 (w : World) : (zeroValue 34).run Ybad.prog w = .ok (.slice none 0 0) w := by kernel_rfl
theorem qc_len (t : It) (i : Nat) : (qc t i).length = 14 := rfl
theorem qc_one (t : It) (i : Nat) : ∀ u ∈ qc t i, u.oneCell' = true := by
  intro u hu
  simp only [qc, List.mem_cons, List.not_mem_nil, or_false] at hu
  rcases hu with rfl | rfl | rfl | rfl | rfl | rfl | rfl | rfl | rfl | rfl | rfl | rfl | rfl | rfl <;> rfl
theorem append_step (W1 : World) (v : Value) (k : Nat) (l : List Key) (t : It) (i b : Nat) (hown : W1.ownsRow B 42 14 v k (flat its n l)) (hk : k ≤ 4096) (hc : ∀ j u, (qc t i)[j]? = some u → W1.cell? ⟨b, j, none⟩ = some u) (hle : B ≤ W1.heap.size) :
    ∃ v' W2, (Builtin.append_ #[34, 34] 34 #[v, .slice (some ⟨b, 0, none⟩) 1 1]).run Ybad.prog W1 = .ok v' W2 ∧ W2.ownsRow B 42 14 v' (k + 1) (flat its n l ++ qc t i) ∧ W1.grownBy W2 v.ownBlock := by
  obtain ⟨i0, hi, hz0, hz1, hz2⟩ := info_parts info42
  obtain ⟨v', W2, h1, h2, h3, _⟩ := run_append_own (P := Ybad.prog) W1 B 34 34 42 i0 _ 14 120 Ybad.underlying34 hi hz0 hz1 hz2 rfl (by decide) v k _ hown ⟨b, 0, none⟩ 1 1 (qc t i) rfl (fun j u hj => by
    rw [show (⟨b, 0, none⟩ : Addr).add j = ⟨b, j, none⟩ by unfold Addr.add; split <;> simp_all]
    exact hc j u hj) (qc_one t i) (by unfold maxLen; omega) (by omega) hle
  exact ⟨v', W2, h1, h2, h3⟩
theorem flat_append (l l' : List Key) : flat its n (l ++ l') = flat its n l ++ flat its n l' := by simp [flat]
/-- A usable quote goes to the chain of its expiry. -/
theorem Grp.step {W : World} (h : Grp its n stale B m2 dn xs sv W) (hm : m2 < B) {κ : Key} (hu : us its n stale κ = true) (hb : (best its n κ).isSome = true) (hdn : dn.length ≤ 4000) (b : Nat) (hbm : b ≠ m2) (hc : ∀ j u, (qc (its (bj its n κ)) (bj its n κ))[j]? = some u → W.cell? ⟨b, j, none⟩ = some u) :
    ∃ v0 pos W1 v1 W2 W3 xs' sv', (Instr.mapEntry 59 (.map (some m2)) (.agg #[.int .u64 0, .int .i64 (xp κ.1), .pointer none])).run Ybad.prog W = .ok (.tuple #[v0, .int .i64 pos]) W1 ∧
      (Builtin.append_ #[34, 34] 34 #[v0, .slice (some ⟨b, 0, none⟩) 1 1]).run Ybad.prog W1 = .ok v1 W2 ∧ (Instr.entryStore 59 (.map (some m2)) (.int .i64 pos) v1).run Ybad.prog W2 = .ok () W3 ∧
      Grp its n stale B m2 (dn ++ [κ]) xs' sv' W3 ∧ Fb B (fun g => g = m2) W W3 := by
  have hlen : ∀ e, (ch its n stale dn e).length ≤ 4000 := fun e => Nat.le_trans (List.length_filter_le _ _) hdn
  have hnew : ∀ κ' ∈ dn ++ [κ], (best its n κ').isSome = true := fun κ' hk => by
    simp at hk
    rcases hk with hk | rfl
    · exact h.bst _ hk
    · exact hb
  by_cases he : κ.1 ∈ xs
  · obtain ⟨pre, post, rfl, hp⟩ := split_first κ.1 xs he
    have hpost : κ.1 ∉ post := by
      have := h.nd
      rw [List.nodup_append] at this
      exact (List.nodup_cons.1 this.2.1).1
    have e1 := entry_old Ybad.underlying59 keys27 sv κ.1 W m2 pre post h.map hp
    obtain ⟨v1, W2, e2, e3, e4⟩ := append_step W (sv κ.1) _ _ (its (bj its n κ)) (bj its n κ) b (h.own _ he) (by have := hlen κ.1; omega) hc h.le
    have hblk : ∀ k, (sv κ.1).ownBlock = some k → B ≤ k := fun k hk => ((h.own _ he).lt k hk).1
    have m2' : MapAt W2 m2 tval sv (pre ++ κ.1 :: post) := by
      unfold MapAt
      rw [e4.block m2 (by have := h.le; omega) (fun e => by have := hblk m2 e.symm; omega)]
      exact h.map
    have e5 := store_entry (mt := 59) sv κ.1 v1 W2 m2 pre post m2' hp hpost
    have hle2 : B ≤ W2.heap.size := Nat.le_trans h.le e4.size
    refine ⟨_, _, _, _, _, _, pre ++ κ.1 :: post, upd sv κ.1 v1, e1, e2, e5, ⟨?_, h.nd, fun e => ?_, fun e hx => ?_, hnew, by simp; exact hle2⟩, ?_⟩
    · unfold MapAt
      rw [setB_at _ (by omega)]
    · rw [h.mem e]
      constructor
      · rintro ⟨κ', h1, h2⟩; exact ⟨κ', by simp [h1], h2⟩
      · rintro ⟨κ', h1, h2, h3⟩
        simp at h1
        rcases h1 with h1 | rfl
        · exact ⟨κ', h1, h2, h3⟩
        · subst h2; exact (h.mem _).1 he
    · refine own_setB ?_ hm _
      by_cases hk : e = κ.1
      · subst hk
        rw [ch_take hu, flat_append]
        have : upd sv κ.1 v1 κ.1 = v1 := by simp [upd]
        rw [this]
        simpa [flat] using e3
      · rw [ch_other (fun e' => hk e'.symm)]
        have : upd sv κ.1 v1 e = sv e := by simp [upd, hk]
        rw [this]
        refine (h.own e hx).kept e4 (Or.inr ?_)
        exact own_ne (h.own e hx) (h.own _ he) 5 _ _ (h.five hx) (h.five he) (by simp; exact fun e' => hk (xp_inj e'))
    · exact (Fb.grown e4 h.le hblk).trans (Fb.setB m2 _ rfl)
  · have e1 := entry_new Ybad.underlying59 keys27 sv κ.1 W m2 xs _ (zero34 W) h.map he
    have hnil : ch its n stale dn κ.1 = [] := by
      rw [List.eq_nil_iff_forall_not_mem]
      intro a ha
      unfold ch at ha
      rw [List.mem_filter] at ha
      have h2 := ha.2
      simp at h2
      exact he ((h.mem _).2 ⟨a, ha.1, h2.1, h2.2⟩)
    have hmW : m2 < W.heap.size := by have := h.le; omega
    obtain ⟨W1, hW1⟩ : ∃ W1, W1 = YbulkcggyDoor.setB W m2 (.map (ents tval (upd sv κ.1 (.slice none 0 0)) 0 (xs ++ [κ.1])).toArray (xs ++ [κ.1]).length) := ⟨_, rfl⟩
    rw [← hW1] at e1
    have m1 : MapAt W1 m2 tval (upd sv κ.1 (.slice none 0 0)) (xs ++ κ.1 :: []) := by unfold MapAt; rw [hW1, setB_at _ hmW]
    have hle1 : B ≤ W1.heap.size := by rw [hW1]; simp; exact h.le
    obtain ⟨v1, W2, e2, e3, e4⟩ := append_step (its := its) (n := n) (B := B) W1 (.slice none 0 0) 0 [] (its (bj its n κ)) (bj its n κ) b (World.ownsRow_nil _ _ _ _) (by omega) (fun j u hj => by
      rw [hW1, World.cell?_of_block (w := W) (setB_other _ hbm)]
      exact hc j u hj) hle1
    have m2' : MapAt W2 m2 tval (upd sv κ.1 (.slice none 0 0)) (xs ++ κ.1 :: []) := by
      unfold MapAt
      rw [e4.block m2 (by rw [hW1]; simp; exact hmW) (by simp [Value.ownBlock])]
      exact m1
    have e5 := store_entry (mt := 59) (upd sv κ.1 (.slice none 0 0)) κ.1 v1 W2 m2 xs [] m2' he (by simp)
    have hle2 : B ≤ W2.heap.size := Nat.le_trans hle1 e4.size
    refine ⟨_, _, _, _, _, _, xs ++ [κ.1], upd (upd sv κ.1 (.slice none 0 0)) κ.1 v1, e1, e2, e5, ⟨?_, ?_, fun e => ?_, fun e hx => ?_, hnew, by simp; exact hle2⟩, ?_⟩
    · unfold MapAt
      rw [setB_at _ (by omega)]
    · rw [List.nodup_append]
      exact ⟨h.nd, by simp, fun a ha b hb => by simp at hb; subst hb; exact fun e => he (e ▸ ha)⟩
    · constructor
      · intro hx
        simp at hx
        rcases hx with hx | rfl
        · obtain ⟨κ', h1, h2⟩ := (h.mem e).1 hx
          exact ⟨κ', by simp [h1], h2⟩
        · exact ⟨κ, by simp, rfl, hu⟩
      · rintro ⟨κ', h1, h2, h3⟩
        simp at h1 ⊢
        rcases h1 with h1 | rfl
        · exact Or.inl ((h.mem e).2 ⟨κ', h1, h2, h3⟩)
        · exact Or.inr h2.symm
    · refine own_setB ?_ hm _
      by_cases hk : e = κ.1
      · subst hk
        rw [ch_take hu, flat_append, hnil]
        have : upd (upd sv κ.1 (.slice none 0 0)) κ.1 v1 κ.1 = v1 := by simp [upd]
        rw [this]
        simpa [flat] using e3
      · rw [ch_other (fun e' => hk e'.symm)]
        have : upd (upd sv κ.1 (.slice none 0 0)) κ.1 v1 e = sv e := by simp [upd, hk]
        rw [this]
        have hx' : e ∈ xs := by simp at hx; rcases hx with hx | hx; exact hx; exact absurd hx hk
        have ho : W1.ownsRow B 42 14 (sv e) (ch its n stale dn e).length (flat its n (ch its n stale dn e)) := by rw [hW1]; exact own_setB (h.own e hx') hm _
        refine ho.kept e4 ?_
        cases (sv e).ownBlock with
        | none => exact Or.inl rfl
        | some g => exact Or.inr (by simp [Value.ownBlock])
    · have f1 : Fb B (fun g => g = m2) W W1 := by rw [hW1]; exact Fb.setB m2 _ rfl
      exact (f1.trans (Fb.grown e4 hle1 (fun k hk => by simp [Value.ownBlock] at hk))).trans (Fb.setB m2 _ rfl)
section
variable {α : Type} [DecidableEq α] {kf f : α → Value} {ks : List α}
theorem left_mem {seen : Array Nat} {e : MapEntry} (h : e ∈ (leftOf (ents kf f 0 ks).toArray seen).toList) : ∃ b a, ks[b]? = some a ∧ e = { key := kf a, val := f a, born := b } ∧ b ∉ seen.toList := by
  obtain ⟨h1, h2⟩ := mem_left h
  obtain ⟨b, a, h3, h4⟩ := ents_mem kf f 0 ks e (by simpa using h1)
  rw [Nat.zero_add] at h4
  refine ⟨b, a, h3, h4, fun hm => ?_⟩
  subst h4
  have : seen.contains b = true := by simpa using hm
  rw [this] at h2
  cases h2
theorem left_none {seen : Array Nat} (h : (leftOf (ents kf f 0 ks).toArray seen).size = 0) {b : Nat} {a : α} (hb : ks[b]? = some a) : b ∈ seen.toList := by
  have := all_seen _ _ h { key := kf a, val := f a, born := b } (by
    have := ents_get kf f 0 ks b a hb
    rw [Nat.zero_add] at this
    simpa using List.mem_of_getElem? this)
  simpa using this
/-- What the iterator has handed out. -/
structure Seen (ks dn : List α) (seen : Array Nat) : Prop where
  eq : dn.map some = seen.toList.map (fun b => ks[b]?)
  nd : seen.toList.Nodup
theorem Seen.nil : Seen ks [] #[] := ⟨rfl, by simp⟩
theorem Seen.size {dn : List α} {seen : Array Nat} (h : Seen ks dn seen) : seen.size = dn.length := by
  have := congrArg List.length h.eq
  simpa using this.symm
theorem Seen.mem {dn : List α} {seen : Array Nat} (h : Seen ks dn seen) (a : α) : a ∈ dn ↔ ∃ b ∈ seen.toList, ks[b]? = some a := by
  have h1 : a ∈ dn ↔ some a ∈ dn.map some := by simp
  rw [h1, h.eq, List.mem_map]
theorem Seen.push {dn : List α} {seen : Array Nat} (h : Seen ks dn seen) (hn : ks.Nodup) {b : Nat} {a : α} (hb : ks[b]? = some a) (hs : b ∉ seen.toList) : Seen ks (dn ++ [a]) (seen.push b) ∧ a ∉ dn := by
  refine ⟨⟨by simp [h.eq, hb], ?_⟩, fun hm => ?_⟩
  · rw [Array.toList_push, List.nodup_append]
    exact ⟨h.nd, by simp, fun x hx y hy => by simp at hy; subst hy; exact fun e => hs (e ▸ hx)⟩
  · obtain ⟨b', h1, h2⟩ := (h.mem a).1 hm
    have hlt := (List.getElem?_eq_some_iff.1 hb).1
    have : b = b' := (List.getElem?_inj hlt hn).1 (hb.trans h2.symm)
    subst this
    exact hs h1
theorem Seen.nodup {dn : List α} {seen : Array Nat} (h : Seen ks dn seen) (hn : ks.Nodup) : dn.Nodup := by
  have h1 : (dn.map some).Nodup := by
    rw [h.eq]
    refine List.pairwise_map.2 (h.nd.imp_of_mem (fun {a b} ha hb hne e => hne ?_))
    have hs : ∃ x, ks[a]? = some x := by
      have : ks[a]? ∈ dn.map some := by rw [h.eq]; exact List.mem_map.2 ⟨a, ha, rfl⟩
      obtain ⟨x, _, hx⟩ := List.mem_map.1 this
      exact ⟨x, hx.symm⟩
    obtain ⟨x, hx⟩ := hs
    exact (List.getElem?_inj (List.getElem?_eq_some_iff.1 hx).1 hn).1 e
  exact (List.pairwise_map.1 h1).imp (fun hne e => hne (by rw [e]))
theorem Seen.sub {dn : List α} {seen : Array Nat} (h : Seen ks dn seen) : ∀ a ∈ dn, a ∈ ks := fun a ha => by
  obtain ⟨b, _, hb⟩ := (h.mem a).1 ha
  exact List.mem_of_getElem? hb
theorem Seen.all {dn : List α} {seen : Array Nat} (h : Seen ks dn seen) (hl : (leftOf (ents kf f 0 ks).toArray seen).size = 0) : ∀ a, a ∈ dn ↔ a ∈ ks := fun a => ⟨h.sub a, fun ha => by
  obtain ⟨b, hb⟩ := List.getElem?_of_mem ha
  exact (h.mem a).2 ⟨b, left_none hl hb, hb⟩⟩
/-- The range loop over a map that stands. -/
theorem next_step (w : World) (ty : TypeId) (r m : Nat) (dn : List α) (seen : Array Nat) (hn : ks.Nodup) (hm : MapAt w m kf f ks) (hr : w.heap[r]? = some (.mapIter (some m) ks.length seen ks.length)) (hs : Seen ks dn seen) :
    ((∀ a, a ∈ dn ↔ a ∈ ks) ∧ (Instr.next (.pointer (some ⟨r, 0, none⟩)) false ty).run Ybad.prog w = .ok (.tuple #[.bool false]) w) ∨
    ∃ b a W, ks[b]? = some a ∧ a ∉ dn ∧ a ∈ ks ∧ Seen ks (dn ++ [a]) (seen.push b) ∧ (∃ w1 : World, (w1 = w ∨ w1 = w.drew) ∧ W = setB w1 r (.mapIter (some m) ks.length (seen.push b) ks.length)) ∧ (Instr.next (.pointer (some ⟨r, 0, none⟩)) false ty).run Ybad.prog w = .ok (.tuple #[.bool true, kf a, f a]) W ∧ (Instr.entry (.pointer (some ⟨r, 0, none⟩))).run Ybad.prog W = .ok (.tuple #[kf a, f a]) W := by
  unfold MapAt at hm
  have hrm : r ≠ m := fun e => by subst e; rw [hm] at hr; cases hr
  have hlt : r < w.heap.size := (Array.getElem?_eq_some_iff.1 hr).1
  rcases run_next_at (P := Ybad.prog) w ty r m ks.length ks.length seen _ ks.length hr hm (fun x hx => by
    obtain ⟨i, a, h1, rfl⟩ := ents_mem kf f 0 ks x (by simpa using hx)
    have := (List.getElem?_eq_some_iff.1 h1).1
    simp; exact this) (Nat.le_refl _) with ⟨h1, h2⟩ | ⟨e, he, w1, hw1, h2⟩
  · exact Or.inl ⟨hs.all h1, h2⟩
  · obtain ⟨b, a, h3, rfl, h4⟩ := left_mem he
    obtain ⟨h5, h6⟩ := hs.push hn h3 h4
    have hw1s : w1.heap = w.heap := by rcases hw1 with rfl | rfl <;> rfl
    refine Or.inr ⟨b, a, _, h3, h6, List.mem_of_getElem? h3, h5, ⟨w1, hw1, rfl⟩, h2, ?_⟩
    exact run_entry_at (P := Ybad.prog) _ r m ks.length seen (ents kf f 0 ks).toArray ks.length { key := kf a, val := f a, born := b } (setB_at _ (by rw [hw1s]; exact hlt)) (by
      show (setB w1 r _).heap[m]? = _
      rw [setB_other _ (Ne.symm hrm), hw1s]; exact hm) (by
      have := ents_get kf f 0 ks b a h3
      rw [Nat.zero_add] at this
      simpa using List.mem_of_getElem? this) (by
      rw [List.toList_toArray, ents_born]
      exact List.nodup_range')
end
/-- What the second loop of chains keeps. -/
structure L2 (its : Nat → It) (n : Nat) (stale : Int) (Wb : World) (m m2 r : Nat) (ks dn : List Key) (seen : Array Nat) (xs : List Nat) (sv : Nat → Value) (wr : World) : Prop where
  fb : Fb Wb.heap.size (fun g => g = m2 ∨ g = r) Wb wr
  it : wr.heap[r]? = some (.mapIter (some m) ks.length seen ks.length)
  seen : Seen ks dn seen
  grp : Grp its n stale Wb.heap.size m2 dn xs sv wr
theorem L2.kept {its : Nat → It} {n : Nat} {stale : Int} {Wb wr w' : World} {m m2 r : Nat} {ks dn : List Key} {seen : Array Nat} {xs : List Nat} {sv : Nat → Value} (h : L2 its n stale Wb m m2 r ks dn seen xs sv wr) (hm2 : m2 < Wb.heap.size) (hr : r < Wb.heap.size) (hb : Below wr.heap.size wr w') : L2 its n stale Wb m m2 r ks dn seen xs sv w' :=
  ⟨h.fb.trans (Fb.of_below (hb.mono h.fb.size)), by rw [hb.block r (by have := h.fb.size; omega)]; exact h.it, h.seen, h.grp.kept hb hm2⟩
/-- What stands when the second loop begins. -/
structure P5 (wr : World) (m : Nat) (c : Nat) (Wb : World) (m2 r : Nat) : Prop where
  eq : Wb = (wr.alloc (.map #[] 0)).alloc (.mapIter (some m) c #[] c)
  em2 : m2 = wr.heap.size
  er : r = wr.heap.size + 1
  map : Wb.heap[m2]? = some (.map #[] 0)
  it : Wb.heap[r]? = some (.mapIter (some m) c #[] c)
  bel : Below wr.heap.size wr Wb
theorem P5.mk' (wr : World) (m c : Nat) : ∃ Wb m2 r, P5 wr m c Wb m2 r := by
  refine ⟨_, _, _, rfl, rfl, rfl, ?_, ?_, ?_⟩
  · rw [heap_alloc_old _ _ (by simp)]; exact heap_alloc_new wr _
  · have := heap_alloc_new (wr.alloc (.map #[] 0)) (.mapIter (some m) c #[] c)
    simpa using this
  · refine ⟨rfl, rfl, rfl, by simp; omega, fun g hg => ?_⟩
    rw [heap_alloc_old _ _ (by simp; omega), heap_alloc_old _ _ hg]
theorem un_drew {w w' : World} (h : Below w.drew.heap.size w.drew w') : Below w.heap.size w w' := ⟨h.os, h.tape, h.output, h.size, h.block⟩
/-- What region 15 of chains reads. -/
theorem S9 {V w' : World} {q A B : Nat} {t : It} {i : Nat} {s x : Int} (h : Q14 V q 0 t i) (ht : T3 V B x) (ha : V.cell? ⟨A, 0, none⟩ = some (.int .i64 s)) (hb : Below V.heap.size V w') :
    w'.cell? ⟨B, 0, none⟩ = some (.int .u64 0) ∧ w'.cell? ⟨B, 1, none⟩ = some (.int .i64 x) ∧ w'.cell? ⟨B, 2, none⟩ = some (.pointer none) ∧ w'.cell? ⟨A, 0, none⟩ = some (.int .i64 s) ∧ w'.cell? ⟨q, 0, none⟩ = some (.int .u64 0) ∧ w'.cell? ⟨q, 1, none⟩ = some (.int .i64 t.tm) ∧ w'.cell? ⟨q, 2, none⟩ = some (.pointer none) ∧ w'.cell? ⟨q, 10, none⟩ = some (.int .i64 t.bid) ∧ w'.cell? ⟨q, 11, none⟩ = some (.int .i64 0) := by
  have h := h.below hb
  have ht := ht.below hb
  exact ⟨ht.c0, ht.c1, ht.c2, by rw [hb.cell (by exact World.block_lt_of_cell? _ _ ha)]; exact ha, h.c0, by simpa using h.c1, by simpa using h.c2, by simpa using h.c10, by simpa using h.c11⟩
/-- A key and a quote laid anew. -/
theorem lay2 (w : World) (κ : Key) (t : It) (i : Nat) : ∃ V, V = (w.alloc (.cells #[.int .u64 0, .int .i64 (xp κ.1), .pointer none, .int .i64 ((κ.2.1 : Int) + 1), .int .i64 0, .int .i64 κ.2.2] 57)).alloc (.cells #[.int .u64 0, .int .i64 t.tm, .pointer none, .string ⟨#[66, 84, 67]⟩, .int .u64 0, .int .i64 (xp t.ee), .pointer none, .int .i64 (((t.kk : Int) + 1) * 10 ^ t.ss), .int .i64 t.ss, .int .i64 t.rr, .int .i64 t.bid, .int .i64 0, .int .i64 ((i : Int) + 1), .int .i64 0] 42) ∧ K6 V w.heap.size κ ∧ Q14 V (w.heap.size + 1) 0 t i ∧ Below w.heap.size w V := by
  obtain ⟨V, h1, h2, h3⟩ := Q14.alloc (w.alloc (.cells #[.int .u64 0, .int .i64 (xp κ.1), .pointer none, .int .i64 ((κ.2.1 : Int) + 1), .int .i64 0, .int .i64 κ.2.2] 57)) t i 42
  refine ⟨V, h1, (K6.alloc w κ 57).below h3, by simpa using h2, ((Below.refl _ _).alloc (Nat.le_refl _) _).trans (h3.mono (by simp))⟩
theorem Q14.list {V : World} {q : Nat} {t : It} {i : Nat} (h : Q14 V q 0 t i) : ∀ j u, (qc t i)[j]? = some u → V.cell? ⟨q, j, none⟩ = some u := by
  intro j u hj
  match j, hj with
  | 0, hj => simp [qc] at hj; subst hj; exact h.c0
  | 1, hj => simp [qc] at hj; subst hj; simpa using h.c1
  | 2, hj => simp [qc] at hj; subst hj; simpa using h.c2
  | 3, hj => simp [qc] at hj; subst hj; simpa using h.c3
  | 4, hj => simp [qc] at hj; subst hj; simpa using h.c4
  | 5, hj => simp [qc] at hj; subst hj; simpa using h.c5
  | 6, hj => simp [qc] at hj; subst hj; simpa using h.c6
  | 7, hj => simp [qc] at hj; subst hj; simpa using h.c7
  | 8, hj => simp [qc] at hj; subst hj; simpa using h.c8
  | 9, hj => simp [qc] at hj; subst hj; simpa using h.c9
  | 10, hj => simp [qc] at hj; subst hj; simpa using h.c10
  | 11, hj => simp [qc] at hj; subst hj; simpa using h.c11
  | 12, hj => simp [qc] at hj; subst hj; simpa using h.c12
  | 13, hj => simp [qc] at hj; subst hj; simpa using h.c13
  | j + 14, hj => simp [qc] at hj
theorem iter_seen {w : World} {r : Nat} {a : Option Nat} {b c : Nat} {s : Array Nat} (h : w.heap[r]? = some (.mapIter a b s c)) : w.iterSeen r = s := by unfold World.iterSeen; rw [h]
theorem nodup_len {α : Type} [DecidableEq α] : ∀ (l l' : List α), l.Nodup → (∀ a ∈ l, a ∈ l') → l.length ≤ l'.length
  | [], l', _, _ => by simp
  | a :: l, l', hn, hs => by
    have ha : a ∈ l' := hs a (by simp)
    have h1 := nodup_len l (l'.erase a) (List.nodup_cons.1 hn).2 (fun b hb => (List.mem_erase_of_ne (fun (e : b = a) => (List.nodup_cons.1 hn).1 (e ▸ hb))).2 (hs b (by simp [hb])))
    have h2 := List.length_erase_of_mem ha
    have h3 : 0 < l'.length := List.length_pos_of_mem ha
    simp only [List.length_cons]
    omega
theorem lat_len {its : Nat → It} {n : Nat} {ks : List Key} (h : LatOk its n ks) (hn : n ≤ 1024) : ks.length ≤ 1024 := by
  have h1 : ks.length = (ks.map (bj its n)).length := by simp
  have h2 : (ks.map (bj its n)).Nodup := by
    refine List.pairwise_map.2 (h.1.imp_of_mem (fun {a b} ha hb hne e => hne ?_))
    obtain ⟨j, hj⟩ := Option.isSome_iff_exists.1 ((h.2 a).1 ha)
    obtain ⟨j', hj'⟩ := Option.isSome_iff_exists.1 ((h.2 b).1 hb)
    unfold bj at e
    rw [hj, hj'] at e
    simp at e
    subst e
    exact (best_some hj).2.2.symm.trans (best_some hj').2.2
  have h3 := nodup_len (ks.map (bj its n)) (List.range n) h2 (fun a ha => by
    obtain ⟨κ, hk, rfl⟩ := List.mem_map.1 ha
    obtain ⟨j, hj⟩ := Option.isSome_iff_exists.1 ((h.2 κ).1 hk)
    unfold bj
    rw [hj]
    exact List.mem_range.2 (best_some hj).1)
  simp at h3
  omega
theorem wp_append_run {o : Oper} {a : Act} {w w' : World} {K : Act → World → Prop} {Q : Exit → Act → World → Prop} (x y : Operand) (t ty : TypeId) (ho : o.op = .call { callee := .builtin .append, args := #[x, y], argTypes := #[t, t] }) (hty : o.type = ty) (u v r : Value) (hx : a.eval x = u) (hy : a.eval y = v) (hrun : (Builtin.append_ #[t, t] ty #[u, v]).run Ybad.prog w = .ok r w')
    (h : K (a.put o.dst r) w') : o.wp Ybad.prog a w K Q := by
  unfold Oper.wp
  simp [execOp, ho, resolve, invoke, builtin, hx, hy, hty, hrun, Result.andThen]
  exact h
theorem wpList_append_run {ops : Array Oper} {rest : List Oper} {o : Oper} {a : Act} {w w' : World} {Q : Exit → Act → World → Prop} (hgd : o.guard = none) (x y : Operand) (t ty : TypeId) (ho : o.op = .call { callee := .builtin .append, args := #[x, y], argTypes := #[t, t] }) (hty : o.type = ty) (u v r : Value) (hx : a.eval x = u) (hy : a.eval y = v) (hrun : (Builtin.append_ #[t, t] ty #[u, v]).run Ybad.prog w = .ok r w')
    (h : wpList Ybad.prog ops Q rest (a.put o.dst r) w') : wpList Ybad.prog ops Q (o :: rest) a w :=
  wpList_plain hgd fun _ hK => wp_append_run x y t ty ho hty u v r hx hy hrun (hK _ _ h)
/-- What the third loop of chains keeps. -/
structure L3 (Wb : World) (m2 r2 : Nat) (sv : Nat → Value) (xs pk : List Nat) (seen : Array Nat) (cv : Value) (wr : World) : Prop where
  fb : Below Wb.heap.size Wb wr
  it : wr.heap[r2]? = some (.mapIter (some m2) xs.length seen xs.length)
  seen : Seen xs pk seen
  own : wr.ownsRow Wb.heap.size 34 1 cv pk.length (pk.map sv)
  nn : ∃ g cap, cv = .slice (some ⟨g, 0, none⟩) pk.length cap
theorem info34 : (Ybad.prog.info? 34).map (fun i => (i.zero, i.size, i.bytes)) = some (some (.slice none 0 0), 1, 24) := by kernel_rfl
theorem own_slice {w : World} {B k size : Nat} {e : TypeId} {v : Value} {xs : List Value} (h : w.ownsRow B e size v k xs) : ∃ a l c, v = .slice a l c := by
  obtain ⟨_, (⟨h, _⟩ | ⟨g, cap, cur, h, _⟩)⟩ := h
  · exact ⟨_, _, _, h⟩
  · exact ⟨_, _, _, h⟩
/-- An iterator's block is no row's. -/
theorem iter_ne_row {w : World} {B k size r : Nat} {e : TypeId} {v : Value} {xs : List Value} {a : Option Nat} {b c : Nat} {s : Array Nat} (h : w.ownsRow B e size v k xs) (hr : w.heap[r]? = some (.mapIter a b s c)) : v.ownBlock ≠ some r := by
  obtain ⟨_, (⟨rfl, _⟩ | ⟨g, cap, cur, rfl, _, h3, _⟩)⟩ := h
  · simp [Value.ownBlock]
  · intro e
    simp [Value.ownBlock] at e
    subst e
    rw [h3] at hr
    cases hr
theorem own_setB' {w : World} {B k size r : Nat} {e : TypeId} {v : Value} {xs : List Value} (h : w.ownsRow B e size v k xs) (hr : v.ownBlock ≠ some r) (o : Obj) : (setB w r o).ownsRow B e size v k xs :=
  h.kept (row := some r) ⟨rfl, rfl, rfl, by simp, fun k _ hk => setB_other o (fun e => hk (by rw [e]))⟩ (Or.inr hr)
theorem append43 (W : World) (B : Nat) (v : Value) (k : Nat) (ys : List Value) (hown : W.ownsRow B 34 1 v k ys) (x : Value) (hx : x.oneCell' = true) (hk : k ≤ 4096) (hle : B ≤ W.heap.size) :
    ∃ v' W2, (Builtin.append_ #[43, 43] 43 #[v, .slice (some ⟨W.heap.size, 0, none⟩) 1 1]).run Ybad.prog (W.alloc (.cells #[x] 34)) = .ok v' W2 ∧ W2.ownsRow B 34 1 v' (k + 1) (ys ++ [x]) ∧ (W.alloc (.cells #[x] 34)).grownBy W2 v.ownBlock := by
  obtain ⟨i0, hi, hz0, hz1, hz2⟩ := info_parts info34
  obtain ⟨v', W2, h1, h2, h3, _⟩ := run_append_own (P := Ybad.prog) (W.alloc (.cells #[x] 34)) B 43 43 34 i0 _ 1 24 Ybad.underlying43 hi hz0 hz1 hz2 rfl (by decide) v k _ (hown.alloc _) ⟨W.heap.size, 0, none⟩ 1 1 [x] rfl (fun j u hj => by
    match j, hj with
    | 0, hj => simp at hj; subst hj; simp [Addr.add]) (fun u hu => by simp at hu; subst hu; exact hx) (by unfold maxLen; omega) (by omega) (by simp; omega)
  exact ⟨v', W2, h1, h2, h3⟩
theorem L3.step {Wb : World} {m2 r2 : Nat} {sv : Nat → Value} {xs pk : List Nat} {seen : Array Nat} {cv : Value} {wr : World} (h : L3 Wb m2 r2 sv xs pk seen cv wr) {w1 : World} (hw1 : w1 = wr ∨ w1 = wr.drew) (hr2 : Wb.heap.size ≤ r2) {b e : Nat} (hs : Seen xs (pk ++ [e]) (seen.push b)) (hx : (sv e).oneCell' = true) (hk : pk.length ≤ 4096) :
    ∃ v' W2, (Builtin.append_ #[43, 43] 43 #[cv, .slice (some ⟨(setB w1 r2 (.mapIter (some m2) xs.length (seen.push b) xs.length)).heap.size, 0, none⟩) 1 1]).run Ybad.prog ((setB w1 r2 (.mapIter (some m2) xs.length (seen.push b) xs.length)).alloc (.cells #[sv e] 34)) = .ok v' W2 ∧ L3 Wb m2 r2 sv xs (pk ++ [e]) (seen.push b) v' W2 := by
  have hw : w1.heap = wr.heap ∧ w1.os = wr.os ∧ w1.tape = wr.tape ∧ w1.output = wr.output := by rcases hw1 with rfl | rfl <;> exact ⟨rfl, rfl, rfl, rfl⟩
  have hown1 : w1.ownsRow Wb.heap.size 34 1 cv pk.length (pk.map sv) := by
    rcases hw1 with rfl | rfl
    · exact h.own
    · exact h.own.drew
  have hr : w1.heap[r2]? = some (.mapIter (some m2) xs.length seen xs.length) := by rw [hw.1]; exact h.it
  have hlt : r2 < w1.heap.size := (Array.getElem?_eq_some_iff.1 hr).1
  have hownS : (setB w1 r2 (.mapIter (some m2) xs.length (seen.push b) xs.length)).ownsRow Wb.heap.size 34 1 cv pk.length (pk.map sv) := own_setB' hown1 (iter_ne_row hown1 hr) _
  have hle : Wb.heap.size ≤ (setB w1 r2 (.mapIter (some m2) xs.length (seen.push b) xs.length)).heap.size := by simp; omega
  obtain ⟨v', W2, e1, e2, e3⟩ := append43 _ Wb.heap.size cv pk.length _ hownS (sv e) hx hk hle
  have hbl : ∀ k, cv.ownBlock = some k → Wb.heap.size ≤ k := fun k hk => (h.own.lt k hk).1
  have hrS : (setB w1 r2 (.mapIter (some m2) xs.length (seen.push b) xs.length)).heap[r2]? = some (.mapIter (some m2) xs.length (seen.push b) xs.length) := setB_at _ hlt
  refine ⟨v', W2, e1, ⟨⟨?_, ?_, ?_, ?_, fun g hg => ?_⟩, ?_, hs, by simpa using e2, ?_⟩⟩
  · rw [e3.os]; exact hw.2.1.trans h.fb.os
  · rw [e3.tape]; exact hw.2.2.1.trans h.fb.tape
  · rw [e3.output]; exact hw.2.2.2.trans h.fb.output
  · have := e3.size; simp at this; omega
  · have hgw : g < wr.heap.size := by have := h.fb.size; omega
    rw [e3.block g (by simp; rw [hw.1]; omega) (fun e => by have := hbl g e.symm; omega), heap_alloc_old _ _ (by simp; rw [hw.1]; exact hgw), setB_other _ (by omega), hw.1]
    exact h.fb.block g hg
  · rw [e3.block r2 (by simp; omega) (fun e => iter_ne_row hown1 hr e.symm), heap_alloc_old _ _ (by simp; exact hlt)]
    exact hrS
  · obtain ⟨_, (⟨_, h0⟩ | ⟨g, cap, cur, rfl, _⟩)⟩ := e2
    · omega
    · exact ⟨g, cap, by simp⟩
end Go.Proofs.YbulkcggyDoor
