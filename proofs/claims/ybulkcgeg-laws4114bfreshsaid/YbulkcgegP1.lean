import Derived.Below
namespace Go.Proofs.Ybulkcgeg
def swp {α : Type} (f : Nat → α) (i l : Nat) : Nat → α := fun j => if j = i then f l else if j = l then f i else f j
def HP {α : Type} (lt : α → α → Bool) (n : Nat) (f : Nat → α) (k : Nat) : Prop := ∀ c, 0 < c → c < n → k ≤ (c - 1) / 2 → lt (f c) (f ((c - 1) / 2)) = false
structure SI {α : Type} (lt : α → α → Bool) (n : Nat) (f : Nat → α) (i0 i : Nat) : Prop where
  up : i ≠ i0 → 0 < i ∧ i0 ≤ (i - 1) / 2
  le : i0 ≤ i
  oth : ∀ c, 0 < c → c < n → i0 ≤ (c - 1) / 2 → (c - 1) / 2 ≠ i → lt (f c) (f ((c - 1) / 2)) = false
  gr : i ≠ i0 → ∀ c, 0 < c → c < n → (c - 1) / 2 = i → lt (f c) (f ((i - 1) / 2)) = false
theorem SI.start {α : Type} {lt : α → α → Bool} {n : Nat} {f : Nat → α} {i : Nat} (h : HP lt n f (i + 1)) : SI lt n f i i :=
  ⟨fun h => absurd rfl h, Nat.le_refl _, fun c h0 h1 h2 h3 => h c h0 h1 (by omega), fun h => absurd rfl h⟩
theorem SI.done {α : Type} {lt : α → α → Bool} {n : Nat} {f : Nat → α} {i0 i : Nat} (h : SI lt n f i0 i) (hc : ∀ c, 0 < c → c < n → (c - 1) / 2 = i → lt (f c) (f i) = false) : HP lt n f i0 := by
  intro c h0 h1 h2
  by_cases e : (c - 1) / 2 = i
  · rw [e]; exact hc c h0 h1 e
  · exact h.oth c h0 h1 h2 e
theorem SI.step {α : Type} {lt : α → α → Bool} (asym : ∀ a b, lt a b = true → lt b a = false) {n : Nat} {f : Nat → α} {i0 i l : Nat} (h : SI lt n f i0 i) (hl0 : 0 < l) (hln : l < n) (hpl : (l - 1) / 2 = i) (hlt : lt (f l) (f i) = true)
    (hc : ∀ c, 0 < c → c < n → (c - 1) / 2 = i → c ≠ l → lt (f c) (f l) = false) : SI lt n (swp f i l) i0 l := by
  have hli : i < l := by omega
  have hle := h.le
  refine ⟨fun _ => ⟨hl0, by omega⟩, by omega, fun c h0 h1 h2 h3 => ?_, fun _ c h0 h1 h2 => ?_⟩
  · by_cases e : (c - 1) / 2 = i
    · have e1 : swp f i l ((c - 1) / 2) = f l := by simp [swp, e]
      by_cases e2 : c = l
      · have e3 : swp f i l c = f i := by simp [swp, e2, show ¬ l = i by omega]
        rw [e1, e3]; exact asym _ _ hlt
      · have e3 : swp f i l c = f c := by simp [swp, e2, show ¬ c = i by omega]
        rw [e1, e3]; exact hc c h0 h1 e e2
    · have e1 : swp f i l ((c - 1) / 2) = f ((c - 1) / 2) := by simp [swp, e, h3]
      by_cases e2 : c = i
      · have e3 : swp f i l c = f l := by simp [swp, e2]
        rw [e1, e3]
        have : i ≠ i0 := by omega
        rw [e2]
        exact h.gr this l hl0 hln hpl
      · have e3 : swp f i l c = f c := by
          have : ¬ c = l := by intro e4; subst e4; exact e hpl
          simp [swp, e2, this]
        rw [e1, e3]; exact h.oth c h0 h1 h2 e
  · rw [hpl]
    have e1 : swp f i l i = f l := by simp [swp]
    have e3 : swp f i l c = f c := by simp [swp, show ¬ c = i by omega, show ¬ c = l by omega]
    rw [e1, e3]
    have := h.oth c h0 h1 (by omega) (by omega)
    rwa [h2] at this
/-- WHAT IS BORNE THROUGH: each of the first k is one of the kept ones, no two the same. -/
structure Kp {α : Type} (Q : α → Nat → Prop) (n k : Nat) (keep : Nat → Bool) (f : Nat → α) (g : Nat → Nat) : Prop where
  at_ : ∀ j, j < k → g j < n ∧ keep (g j) = true ∧ Q (f j) (g j)
  inj : ∀ j j', j < k → j' < k → g j = g j' → j = j'
theorem Kp.swp {α : Type} {Q : α → Nat → Prop} {n k : Nat} {keep : Nat → Bool} {f : Nat → α} {g : Nat → Nat} (h : Kp Q n k keep f g) {i l : Nat} (hi : i < k) (hl : l < k) (hil : ¬ l = i) : Kp Q n k keep (swp f i l) (Ybulkcgeg.swp g i l) := by
  refine ⟨fun j hj => ?_, fun j j' hj hj' e => ?_⟩
  · unfold Ybulkcgeg.swp
    by_cases e : j = i
    · simp only [e, if_true]; exact h.at_ l hl
    · by_cases e2 : j = l
      · simp only [e2, hil, if_false, if_true]; exact h.at_ i hi
      · simp only [e, e2, if_false]; exact h.at_ j hj
  · unfold Ybulkcgeg.swp at e
    by_cases a1 : j = i <;> by_cases a2 : j = l <;> by_cases b1 : j' = i <;> by_cases b2 : j' = l <;> simp only [a1, a2, b1, b2, hil, if_true, if_false] at e <;> first | omega | (have := h.inj _ _ hl hj' e; omega) | (have := h.inj _ _ hi hj' e; omega) | (have := h.inj _ _ hj hl e; omega) | (have := h.inj _ _ hj hi e; omega) | (have := h.inj _ _ hj hj' e; omega) | (have := h.inj _ _ hl hi e; omega) | (have := h.inj _ _ hi hl e; omega)
end Go.Proofs.Ybulkcgeg
