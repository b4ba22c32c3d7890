import Derived.Sort.AssemblyPlain
namespace Go.Proofs.Ybulkcgfi
set_option linter.unusedVariables false
set_option linter.unusedSimpArgs false
abbrev IDp := List UInt8
/-- What Compact has done so far: k IDs are kept, the first p are read. -/
structure CI (d cur : Array IDp) (k p : Nat) : Prop where
  k1 : 1 ≤ k
  kp : k < p
  pn : p ≤ d.size
  sz : cur.size = d.size
  same : ∀ j, k ≤ j → j < d.size → cur[j]! = d[j]!
  asc : ∀ i j, i < j → j < k → cur[i]! < cur[j]!
  last : cur[k - 1]! = d[p - 1]!
  all : ∀ j, j < p → ∃ i, i < k ∧ cur[i]! = d[j]!
  src : ∀ i, i < k → ∃ j, j < d.size ∧ cur[i]! = d[j]!
/-- Ascending, each once, nothing else. -/
structure CF (d r : Array IDp) : Prop where
  le : r.size ≤ d.size
  asc : ∀ i j, i < j → j < r.size → r[i]! < r[j]!
  sub : ∀ i, i < r.size → ∃ j, j < d.size ∧ r[i]! = d[j]!
  sup : ∀ j, j < d.size → ∃ i, i < r.size ∧ r[i]! = d[j]!
theorem lt_of_sorted {x y : IDp} (h : Sort.ltStr y x = false) (hne : y ≠ x) : x < y := by
  simp only [Sort.ltStr, decide_eq_false_iff_not, List.not_lt] at h
  exact Decidable.byContradiction fun hn => hne (List.le_antisymm (List.not_lt.1 hn) h)
theorem set_at {d : Array IDp} {i x : Nat} {v : IDp} (hi : i < d.size) : (d.setIfInBounds i v)[x]! = if x = i then v else d[x]! := by
  by_cases h : x = i
  · subst h; simp [hi]
  · rw [if_neg h]
    simp [Array.getElem!_eq_getD, Array.getD_eq_getD_getElem?, Array.getElem?_setIfInBounds, Ne.symm h]
theorem CI.start {d : Array IDp} {k : Nat} (h1 : 1 ≤ k) (hk : k < d.size) (ha : ∀ i j, i < j → j < k → d[i]! < d[j]!) (he : d[k]! = d[k - 1]!) : CI d d k (k + 1) :=
  ⟨h1, by omega, by omega, rfl, fun _ _ _ => rfl, ha, by rw [Nat.add_sub_cancel, he], fun j hj => by
    by_cases h : j < k
    · exact ⟨j, h, rfl⟩
    · have : j = k := by omega
      subst this
      exact ⟨j - 1, by omega, he.symm⟩, fun i hi => ⟨i, by omega, rfl⟩⟩
theorem CI.skip {d cur : Array IDp} {k p : Nat} (h : CI d cur k p) (hp : p < d.size) (he : d[p]! = d[p - 1]!) : CI d cur k (p + 1) :=
  ⟨h.k1, by have := h.kp; omega, by omega, h.sz, h.same, h.asc, by rw [Nat.add_sub_cancel, he]; exact h.last, fun j hj => by
    by_cases h2 : j < p
    · exact h.all j h2
    · have : j = p := by omega
      subst this
      have := h.k1
      exact ⟨k - 1, by omega, by rw [he]; exact h.last⟩, h.src⟩
theorem CI.take {d cur : Array IDp} {k p : Nat} (hs : Sort.SortedIn Sort.ltStr 0 d.size d) (h : CI d cur k p) (hp : p < d.size) (hne : d[p]! ≠ d[p - 1]!) : CI d (cur.setIfInBounds k d[p]!) (k + 1) (p + 1) := by
  have hk := h.kp
  have h1 := h.k1
  have hkc : k < cur.size := by rw [h.sz]; omega
  have hlt : d[p - 1]! < d[p]! := lt_of_sorted (hs (p - 1) p (by omega) (by omega) hp) hne
  refine ⟨by omega, by omega, by omega, by simp [h.sz], fun j hj hj2 => ?_, fun i j hij hj => ?_, ?_, fun j hj => ?_, fun i hi => ?_⟩
  · rw [set_at hkc, if_neg (by omega)]; exact h.same j (by omega) hj2
  · rw [set_at hkc, set_at hkc, if_neg (by omega)]
    by_cases hjk : j = k
    · rw [if_pos hjk]
      by_cases hi : i = k - 1
      · rw [hi, h.last]; exact hlt
      · have h3 := h.asc i (k - 1) (by omega) (by omega)
        rw [h.last] at h3
        exact List.lt_trans h3 hlt
    · rw [if_neg hjk]; exact h.asc i j hij (by omega)
  · rw [Nat.add_sub_cancel, Nat.add_sub_cancel, set_at hkc, if_pos rfl]
  · by_cases hjp : j = p
    · subst hjp; exact ⟨k, by omega, by rw [set_at hkc, if_pos rfl]⟩
    · obtain ⟨i, hi, e⟩ := h.all j (by omega)
      exact ⟨i, by omega, by rw [set_at hkc, if_neg (by omega)]; exact e⟩
  · by_cases hik : i = k
    · subst hik; exact ⟨p, hp, by rw [set_at hkc, if_pos rfl]⟩
    · obtain ⟨j, hj, e⟩ := h.src i (by omega)
      exact ⟨j, hj, by rw [set_at hkc, if_neg hik]; exact e⟩
theorem extract_at {d : Array IDp} {k i : Nat} (hi : i < k) (hk : k ≤ d.size) : (d.extract 0 k)[i]! = d[i]! := by
  simp [Array.getElem!_eq_getD, Array.getD_eq_getD_getElem?, Array.getElem?_extract]
  rw [if_pos (by omega)]
theorem CI.done {d cur : Array IDp} {k : Nat} (h : CI d cur k d.size) : CF d (cur.extract 0 k) := by
  have hk := h.kp
  have hsz : (cur.extract 0 k).size = k := by simp [h.sz]; omega
  have hle : k ≤ cur.size := by rw [h.sz]; omega
  refine ⟨by omega, fun i j hij hj => ?_, fun i hi => ?_, fun j hj => ?_⟩
  · rw [hsz] at hj
    rw [extract_at (by omega) hle, extract_at hj hle]
    exact h.asc i j hij hj
  · rw [hsz] at hi
    rw [extract_at hi hle]
    exact h.src i hi
  · obtain ⟨i, hi, e⟩ := h.all j hj
    exact ⟨i, by omega, by rw [extract_at hi hle]; exact e⟩
theorem CF.whole {d : Array IDp} (ha : ∀ i j, i < j → j < d.size → d[i]! < d[j]!) : CF d d :=
  ⟨Nat.le_refl _, ha, fun i hi => ⟨i, hi, rfl⟩, fun j hj => ⟨j, hj, rfl⟩⟩
/-- One more of the first run. -/
theorem asc_step {d : Array IDp} {k : Nat} (hs : Sort.SortedIn Sort.ltStr 0 d.size d) (h1 : 1 ≤ k) (hk : k < d.size) (ha : ∀ i j, i < j → j < k → d[i]! < d[j]!) (hne : d[k]! ≠ d[k - 1]!) : ∀ i j, i < j → j < k + 1 → d[i]! < d[j]! := by
  intro i j hij hj
  by_cases hjk : j = k
  · subst hjk
    have hlt : d[j - 1]! < d[j]! := lt_of_sorted (hs (j - 1) j (by omega) (by omega) hk) hne
    by_cases hi : i = j - 1
    · rw [hi]; exact hlt
    · exact List.lt_trans (ha i (j - 1) (by omega) (by omega)) hlt
  · exact ha i j hij (by omega)
end Go.Proofs.Ybulkcgfi
