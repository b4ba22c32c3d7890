import Derived.Test.YbulkcggyDoorK10
namespace Go.Proofs.YbulkcggyDoor
open Go.RowKit
set_option linter.unusedVariables false
set_option linter.unusedSectionVars false
set_option linter.unusedSimpArgs false
set_option maxRecDepth 100000
variable {its : Nat → It} {n : Nat} {stale : Int} {B m2 : Nat} {dn : List Key} {xs : List Nat} {sv : Nat → Value} {wr : World}
theorem Grp.pos (h : Grp its n stale B m2 dn xs sv wr) {e : Nat} (he : e ∈ xs) : ∃ κ l, ch its n stale dn e = κ :: l ∧ κ.1 = e ∧ (best its n κ).isSome = true := by
  obtain ⟨κ, h1, h2, h3⟩ := (h.mem e).1 he
  have hm : κ ∈ ch its n stale dn e := by unfold ch; rw [List.mem_filter]; exact ⟨h1, by simp [h2, h3]⟩
  cases hc : ch its n stale dn e with
  | nil => rw [hc] at hm; cases hm
  | cons a l =>
    have ha : a ∈ ch its n stale dn e := by rw [hc]; simp
    unfold ch at ha
    rw [List.mem_filter] at ha
    have he2 : a.1 = e := by have := ha.2; simp at this; exact this.1
    exact ⟨a, l, rfl, he2, h.bst a ha.1⟩
theorem flat_get (l : List Key) (y j : Nat) (hy : y < l.length) (hj : j < 14) (κ : Key) (hk : l[y]? = some κ) : (flat its n l)[y * 14 + j]? = (qc (its (bj its n κ)) (bj its n κ))[j]? := by
  induction l generalizing y with
  | nil => simp at hy
  | cons a l ih =>
    have e : flat its n (a :: l) = qc (its (bj its n a)) (bj its n a) ++ flat its n l := by simp [flat]
    rw [e]
    cases y with
    | zero =>
      simp at hk
      subst hk
      rw [List.getElem?_append_left (by rw [qc_len]; omega)]
      simp
    | succ y =>
      rw [List.getElem?_append_right (by rw [qc_len]; omega), qc_len, show (y + 1) * 14 + j - 14 = y * 14 + j by omega]
      exact ih y (by simpa using hy) (by simpa using hk)
/-- The quotes of a chain, as they lie. -/
theorem chain_at {w : World} {b c k : Nat} {l : List Key} (h : w.ownsRow B 42 14 (.slice (some ⟨b, 0, none⟩) k c) k (flat its n l)) (hk : k = l.length) (y : Nat) (κ : Key) (hy : l[y]? = some κ) : Q14 w b (y * 14) (its (bj its n κ)) (bj its n κ) := by
  have hlt : y < l.length := (List.getElem?_eq_some_iff.1 hy).1
  have c : ∀ j v, j < 14 → (qc (its (bj its n κ)) (bj its n κ))[j]? = some v → w.cell? ⟨b, y * 14 + j, none⟩ = some v := fun j v hj hv => by
    rw [h.cellAt _ (by omega), flat_get l y j hlt hj κ hy]
    exact hv
  exact ⟨c 0 _ (by omega) rfl, c 1 _ (by omega) rfl, c 2 _ (by omega) rfl, c 3 _ (by omega) rfl, c 4 _ (by omega) rfl, c 5 _ (by omega) rfl, c 6 _ (by omega) rfl, c 7 _ (by omega) rfl, c 8 _ (by omega) rfl, c 9 _ (by omega) rfl, c 10 _ (by omega) rfl, c 11 _ (by omega) rfl, c 12 _ (by omega) rfl, c 13 _ (by omega) rfl⟩
theorem Grp.form (h : Grp its n stale B m2 dn xs sv wr) {e : Nat} (he : e ∈ xs) : ∃ b c, sv e = .slice (some ⟨b, 0, none⟩) (ch its n stale dn e).length c ∧ b < wr.heap.size ∧ 0 < (ch its n stale dn e).length := by
  obtain ⟨κ, l, h1, h2, h3⟩ := h.pos he
  have ho := h.own e he
  have hl : 0 < (ch its n stale dn e).length := by rw [h1]; simp
  obtain ⟨_, (⟨_, h0⟩ | ⟨b, c, cur, h4, _⟩)⟩ := id ho
  · omega
  · exact ⟨b, c, h4, (ho.lt b (by rw [h4]; rfl)).2, hl⟩
theorem Grp.chn (h : Grp its n stale B m2 dn xs sv wr) {e : Nat} (he : e ∈ xs) (g : Nat) (hg : wr.heap.size ≤ g) : Chn wr g sv e := by
  obtain ⟨κ, l, h1, h2, h3⟩ := h.pos he
  obtain ⟨b, c, hs, hb, hl⟩ := h.form he
  have ho := h.own e he
  rw [hs] at ho
  have hq := chain_at ho rfl 0 κ (by rw [h1]; rfl)
  have hee := ee_of h3
  refine ⟨b, _, c, hs, hl, ⟨by simpa using hq.c4, ?_, by simpa using hq.c6⟩, by omega⟩
  have := hq.c5
  rw [hee, h2] at this
  simpa using this
theorem Grp.range (h : Grp its n stale B m2 dn xs sv wr) : ∀ e ∈ xs, e ∈ [2, 3, 4] := fun e he => by
  obtain ⟨κ, l, h1, h2, h3⟩ := h.pos he
  obtain ⟨j, hj⟩ := Option.isSome_iff_exists.1 h3
  have h4 := best_some hj
  have h5 := (its j).ee_lt
  have h6 : 2 ≤ (its j).ee := by have := h4.2.1; unfold It.elig at this; simp at this; exact this.2
  have h7 : (its j).ee = κ.1 := by rw [← h4.2.2]; rfl
  have : e = 2 ∨ e = 3 ∨ e = 4 := by omega
  simpa using this
theorem Grp.len (h : Grp its n stale B m2 dn xs sv wr) : xs.length ≤ 3 := nodup_len xs [2, 3, 4] h.nd h.range
theorem own_frozen {w : World} {k cap g : Nat} {ys : List Value} (h : w.ownsRow B 34 1 (.slice (some ⟨g, 0, none⟩) k cap) k ys) (x : Nat) : w.frozen? ⟨g, x, none⟩ = false := by
  obtain ⟨_, (⟨h1, _⟩ | ⟨g', c, cur, h1, _, h3, _⟩)⟩ := h
  · simp at h1
  · injection h1 with h1 _ _
    injection h1 with h1
    injection h1 with h1 _ _
    subst h1
    simp [World.frozen?, h3]
/-- What chains hands back. -/
def ChainsPost (its : Nat → It) (n : Nat) (stale : Int) (w : World) (e : Ending) (w' : World) : Prop :=
  ∃ (g k cap : Nat) (p : Nat → Nat), e = .returned (.slice (some ⟨g, 0, none⟩) k cap) ∧ Below w.heap.size w w' ∧ k ≤ 3 ∧ Srt p k ∧
    (∀ v, (∃ x, x < k ∧ p x = v) ↔ ∃ κ : Key, κ.1 = v ∧ (best its n κ).isSome = true ∧ us its n stale κ = true) ∧
    ∀ x, x < k → ∃ (b c : Nat) (l : List Key), w'.cell? ⟨g, x, none⟩ = some (.slice (some ⟨b, 0, none⟩) l.length c) ∧ l.Nodup ∧ (∀ κ, κ ∈ l ↔ κ.1 = p x ∧ (best its n κ).isSome = true ∧ us its n stale κ = true) ∧
      ∀ y κ, l[y]? = some κ → Q14 w' b (y * 14) (its (bj its n κ)) (bj its n κ)
theorem Q14.same {V w' : World} {q o : Nat} {t : It} {i : Nat} (h : Q14 V q o t i) (hb : w'.heap[q]? = V.heap[q]?) : Q14 w' q o t i := by
  have c : ∀ o, w'.cell? ⟨q, o, none⟩ = V.cell? ⟨q, o, none⟩ := fun o => World.cell?_of_block hb
  exact ⟨by rw [c]; exact h.c0, by rw [c]; exact h.c1, by rw [c]; exact h.c2, by rw [c]; exact h.c3, by rw [c]; exact h.c4, by rw [c]; exact h.c5, by rw [c]; exact h.c6, by rw [c]; exact h.c7, by rw [c]; exact h.c8, by rw [c]; exact h.c9, by rw [c]; exact h.c10, by rw [c]; exact h.c11, by rw [c]; exact h.c12, by rw [c]; exact h.c13⟩
/-- The end of chains. -/
theorem chains_end {w Wd w3 w' : World} {g cap : Nat} {pk : List Nat} {p : Nat → Nat} (hG : Grp its n stale B m2 dn xs sv Wd) (hdn : dn.Nodup) (hall : ∀ κ, κ ∈ dn ↔ (best its n κ).isSome = true) (hpk : ∀ e, e ∈ pk ↔ e ∈ xs) (hpn : pk.Nodup) (hwd : Below w.heap.size w Wd) (h3 : Below Wd.heap.size Wd w3) (hg : Wd.heap.size ≤ g)
    (hS : SR w3 g pk.length sv (fun x => pk.getD x 0) p w') (hs : Srt p pk.length) : ChainsPost its n stale w (.returned (.slice (some ⟨g, 0, none⟩) pk.length cap)) w' := by
  have hsz := hwd.size
  have hmem : ∀ x, x < pk.length → p x ∈ xs := fun x hx => by
    obtain ⟨y, hy, he⟩ := (hS.per (p x)).1 ⟨x, hx, rfl⟩
    rw [← he, ← hpk, List.getD_eq_getElem?_getD, List.getElem?_eq_getElem hy]
    exact List.getElem_mem hy
  have hblk : ∀ q, q < Wd.heap.size → w'.heap[q]? = Wd.heap[q]? := fun q hq => by
    rw [hS.fw.block q (by have := h3.size; omega) (by omega)]
    exact h3.block q hq
  refine ⟨g, pk.length, cap, p, rfl, ?_, ?_, hs, fun v => ?_, fun x hx => ?_⟩
  · refine hwd.trans (Below.mono (B := Wd.heap.size) ?_ hsz)
    exact ⟨hS.fw.os.trans h3.os, hS.fw.tape.trans h3.tape, hS.fw.output.trans h3.output, Nat.le_trans h3.size hS.fw.size, hblk⟩
  · exact Nat.le_trans (nodup_len pk xs hpn (fun a ha => (hpk a).1 ha)) hG.len
  · rw [hS.per v]
    constructor
    · rintro ⟨x, hx, rfl⟩
      have : pk.getD x 0 ∈ xs := by
        rw [← hpk, List.getD_eq_getElem?_getD, List.getElem?_eq_getElem hx]
        exact List.getElem_mem hx
      obtain ⟨κ, h1, h2, h4⟩ := (hG.mem _).1 this
      exact ⟨κ, h2, (hall κ).1 h1, h4⟩
    · rintro ⟨κ, h1, h2, h4⟩
      have : v ∈ pk := (hpk v).2 ((hG.mem v).2 ⟨κ, (hall κ).2 h2, h1, h4⟩)
      obtain ⟨x, hx⟩ := List.getElem?_of_mem this
      exact ⟨x, (List.getElem?_eq_some_iff.1 hx).1, by show pk.getD x 0 = v; rw [List.getD_eq_getElem?_getD, hx]; rfl⟩
  · obtain ⟨b, c, hv, hb, hl⟩ := hG.form (hmem x hx)
    have ho := hG.own _ (hmem x hx)
    rw [hv] at ho
    refine ⟨b, c, ch its n stale dn (p x), by rw [hS.row x hx, hv], hdn.filter _, fun κ => ?_, fun y κ hy => (chain_at ho rfl y κ hy).same (hblk b hb)⟩
    unfold ch
    rw [List.mem_filter, hall κ]
    simp
    constructor
    · rintro ⟨h1, h2, h4⟩; exact ⟨h2, h1, h4⟩
    · rintro ⟨h1, h2, h4⟩; exact ⟨h2, h1, h4⟩
/-- The row that the third loop has laid, as the sort meets it. -/
theorem L3.sr {Wd : World} {r2 : Nat} {pk : List Nat} {seen : Array Nat} {g cap : Nat} {w3 : World} (h : L3 Wd m2 r2 sv xs pk seen (.slice (some ⟨g, 0, none⟩) pk.length cap) w3) (hpn : pk.Nodup) : SR w3 g pk.length sv (fun x => pk.getD x 0) (fun x => pk.getD x 0) w3 := by
  refine ⟨Fw.refl _ _, fun x hx => ?_, fun x hx => own_frozen h.own x, fun v => Iff.rfl, fun x y hx hy e => ?_⟩
  · rw [h.own.cellAt x (by omega), List.getElem?_map, List.getElem?_eq_getElem hx, List.getD_eq_getElem?_getD, List.getElem?_eq_getElem hx]
    rfl
  · simp only [List.getD_eq_getElem?_getD, List.getElem?_eq_getElem hx, List.getElem?_eq_getElem hy, Option.getD_some] at e
    exact (List.getElem_inj hpn).1 e
end Go.Proofs.YbulkcggyDoor
