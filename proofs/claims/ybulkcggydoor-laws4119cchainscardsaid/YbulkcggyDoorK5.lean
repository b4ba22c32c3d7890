import Derived.Test.YbulkcggyDoorK4
namespace Go.Proofs.YbulkcggyDoor
open Go.RowKit
set_option linter.unusedVariables false
set_option linter.unusedSectionVars false
set_option linter.unusedSimpArgs false
set_option maxRecDepth 100000
/-- The expiry of kind e, in seconds. -/
def xp (e : Nat) : Int := 3596400 + 3600 * (e : Int)
theorem xp_inj {a b : Nat} (h : xp a = xp b) : a = b := by unfold xp at h; omega
abbrev Key := Nat × Nat × Nat
/-- The key of an option as the map holds it. -/
def kval (κ : Key) : Value := kv (xp κ.1) ((κ.2.1 : Int) + 1) κ.2.2
def tval (e : Nat) : Value := tv (xp e)
theorem bits_agg (D d : Nat) (hD : D = d + 1) (xs : List Value) (h : ∀ v ∈ xs, Instr.sameBits d v v = true) : Instr.sameBits D (.agg xs.toArray) (.agg xs.toArray) = true := by
  subst hD
  simp only [Instr.sameBits, beq_self_eq_true, Bool.true_and, List.all_eq_true]
  intro p hp
  obtain ⟨i, hi⟩ := List.getElem?_of_mem hp
  rw [List.getElem?_zip_eq_some] at hi
  obtain ⟨h1, h2⟩ := hi
  rw [h1] at h2
  injection h2 with h2
  obtain ⟨p1, p2⟩ := p
  simp only at h1 h2 ⊢
  subst h2
  exact h _ (List.mem_of_getElem? h1)
theorem bits_int (D : Nat) (k : IntKind) (a : Int) : Instr.sameBits D (.int k a) (.int k a) = true := by cases D <;> simp [Instr.sameBits]
theorem bits_nil (D : Nat) : Instr.sameBits D (.pointer none) (.pointer none) = true := by cases D <;> simp [Instr.sameBits]
theorem key_dec (a b : Key) : (xp a.1 == xp b.1 && ((a.2.1 : Int) + 1) == ((b.2.1 : Int) + 1) && (a.2.2 : Int) == (b.2.2 : Int)) = decide (a = b) := by
  obtain ⟨a1, a2, a3⟩ := a
  obtain ⟨b1, b2, b3⟩ := b
  by_cases h1 : a1 = b1
  · by_cases h2 : a2 = b2
    · by_cases h3 : a3 = b3
      · simp [h1, h2, h3]
      · have : ¬ (a3 : Int) = b3 := by omega
        simp [h1, h2, h3, this]
    · have : ¬ (a2 : Int) = b2 := by omega
      simp [h1, h2, this]
  · have : xp a1 ≠ xp b1 := fun e => h1 (xp_inj e)
    simp [h1, this]
theorem time_dec (a b : Nat) : (xp a == xp b) = decide (a = b) := by
  by_cases h1 : a = b
  · simp [h1]
  · have : xp a ≠ xp b := fun e => h1 (xp_inj e)
    simp [h1, this]
theorem keys57 : Keys kval 57 where
  str := ⟨_, Ybad.underlying57⟩
  eq := fun a b w => by
    have h := eq57 10000 9997 (by decide) (xp a.1) ((a.2.1 : Int) + 1) a.2.2 (xp b.1) ((b.2.1 : Int) + 1) b.2.2 w
    rw [key_dec] at h
    exact h
  chk := fun em a w => chk57 em 10000 9997 (by decide) _ _ _ w
  bits := fun a => bits_agg 10000 9999 (by decide) [.int .u64 0, .int .i64 (xp a.1), .pointer none, .int .i64 ((a.2.1 : Int) + 1), .int .i64 0, .int .i64 a.2.2] (fun v hv => by
    simp only [List.mem_cons, List.not_mem_nil, or_false] at hv
    rcases hv with rfl | rfl | rfl | rfl | rfl | rfl <;> first | exact bits_int _ _ _ | exact bits_nil _)
theorem keys27 : Keys tval 27 where
  str := ⟨_, Ybad.underlying27⟩
  eq := fun a b w => by
    have h := eq27 10000 9998 (by decide) (xp a) (xp b) w
    rw [time_dec] at h
    exact h
  chk := fun em a w => chk27 em 10000 9998 (by decide) _ w
  bits := fun a => bits_agg 10000 9999 (by decide) [.int .u64 0, .int .i64 (xp a), .pointer none] (fun v hv => by
    simp only [List.mem_cons, List.not_mem_nil, or_false] at hv
    rcases hv with rfl | rfl | rfl <;> first | exact bits_int _ _ _ | exact bits_nil _)
/-- A quote as the law is given it. -/
structure It where
  qt : Int
  e : Int
  k : Int
  s : Int
  r : Int
  bid : Int
structure It.ok (t : It) : Prop where
  q0 : -128 ≤ t.qt
  q1 : t.qt ≤ 127
  e0 : 0 ≤ t.e
  e1 : t.e ≤ 255
  k0 : 0 ≤ t.k
  k1 : t.k ≤ 255
  s0 : 0 ≤ t.s
  s1 : t.s ≤ 255
  r0 : 0 ≤ t.r
  r1 : t.r ≤ 255
  b0 : -128 ≤ t.bid
  b1 : t.bid ≤ 127
def It.ee (t : It) : Nat := (t.e % 5).toNat
def It.kk (t : It) : Nat := (t.k % 3).toNat
def It.ss (t : It) : Nat := (t.s % 3).toNat
def It.rr (t : It) : Nat := (t.r % 2).toNat
def It.key (t : It) : Key := (t.ee, t.kk, t.rr)
def It.elig (t : It) : Bool := decide (t.qt ≤ 0) && decide (2 ≤ t.ee)
def It.tm (t : It) : Int := 3600000 + 60 * t.qt
/-- The cells of the quote that the law makes of item i. -/
def qc (t : It) (i : Nat) : List Value := [.int .u64 0, .int .i64 t.tm, .pointer none, .string ⟨#[66, 84, 67]⟩, .int .u64 0, .int .i64 (xp t.ee), .pointer none, .int .i64 (((t.kk : Int) + 1) * 10 ^ t.ss), .int .i64 t.ss, .int .i64 t.rr, .int .i64 t.bid, .int .i64 0, .int .i64 ((i : Int) + 1), .int .i64 0]
def qv (t : It) (i : Nat) : Value := .agg (qc t i).toArray
/-- The latest quote of an option among the first n. -/
def best (its : Nat → It) : Nat → Key → Option Nat
  | 0, _ => none
  | n + 1, κ => if (its n).elig = true ∧ (its n).key = κ ∧ (∀ j, best its n κ = some j → (its j).qt ≤ (its n).qt) then some n else best its n κ
theorem best_some {its : Nat → It} : ∀ {n : Nat} {κ : Key} {j : Nat}, best its n κ = some j → j < n ∧ (its j).elig = true ∧ (its j).key = κ
  | 0, _, _, h => by simp [best] at h
  | n + 1, κ, j, h => by
    unfold best at h
    split at h
    · rename_i hc
      injection h with h
      subst h
      exact ⟨by omega, hc.1, hc.2.1⟩
    · obtain ⟨h1, h2, h3⟩ := best_some h
      exact ⟨by omega, h2, h3⟩
/-- The value that the map holds at κ. -/
def bv (its : Nat → It) (n : Nat) (κ : Key) : Value := qv (its ((best its n κ).getD 0)) ((best its n κ).getD 0)
/-- The keys of the map of the latest quotes. -/
def LatOk (its : Nat → It) (n : Nat) (ks : List Key) : Prop := ks.Nodup ∧ ∀ κ, κ ∈ ks ↔ (best its n κ).isSome = true
theorem LatOk.zero (its : Nat → It) : LatOk its 0 [] := ⟨by simp, fun κ => by simp [best]⟩
/-- An item that is not eligible changes nothing. -/
theorem best_skip {its : Nat → It} {n : Nat} (h : (its n).elig = false) (κ : Key) : best its (n + 1) κ = best its n κ := by
  rw [best]; rw [if_neg (by simp [h])]
theorem best_other {its : Nat → It} {n : Nat} {κ : Key} (h : κ ≠ (its n).key) : best its (n + 1) κ = best its n κ := by
  rw [best]; rw [if_neg (fun hc => h hc.2.1.symm)]
theorem best_take {its : Nat → It} {n : Nat} (h : (its n).elig = true) (h2 : ∀ j, best its n (its n).key = some j → (its j).qt ≤ (its n).qt) : best its (n + 1) (its n).key = some n := by
  rw [best]; rw [if_pos ⟨h, rfl, h2⟩]
theorem best_leave {its : Nat → It} {n j : Nat} (hj : best its n (its n).key = some j) (h2 : (its n).qt < (its j).qt) (κ : Key) : best its (n + 1) κ = best its n κ := by
  rw [best]; rw [if_neg (fun hc => by
    obtain ⟨_, h3, h4⟩ := hc
    subst h3
    have := h4 j hj
    omega)]
theorem LatOk.same {its : Nat → It} {n : Nat} {ks : List Key} (h : LatOk its n ks) (hb : ∀ κ, best its (n + 1) κ = best its n κ) : LatOk its (n + 1) ks := ⟨h.1, fun κ => by rw [hb]; exact h.2 κ⟩
theorem LatOk.new {its : Nat → It} {n : Nat} {ks : List Key} (h : LatOk its n ks) (he : (its n).elig = true) (hn : (its n).key ∉ ks) : LatOk its (n + 1) (ks ++ [(its n).key]) := by
  have hnone : best its n (its n).key = none := by
    cases hb : best its n (its n).key with
    | none => rfl
    | some j => exact absurd ((h.2 _).2 (by rw [hb]; rfl)) hn
  have ht := best_take he (fun j hj => by rw [hnone] at hj; cases hj)
  refine ⟨?_, fun κ => ?_⟩
  · rw [List.nodup_append]
    exact ⟨h.1, by simp, fun a ha b hb => by simp at hb; subst hb; exact fun e => hn (e ▸ ha)⟩
  · by_cases hk : κ = (its n).key
    · subst hk; simp [ht]
    · rw [best_other hk]; simp [hk, h.2 κ]
theorem LatOk.old {its : Nat → It} {n : Nat} {ks : List Key} (h : LatOk its n ks) (he : (its n).elig = true) (hm : (its n).key ∈ ks) (h2 : ∀ j, best its n (its n).key = some j → (its j).qt ≤ (its n).qt) : LatOk its (n + 1) ks := by
  have ht := best_take he h2
  refine ⟨h.1, fun κ => ?_⟩
  by_cases hk : κ = (its n).key
  · subst hk; simp [ht, hm]
  · rw [best_other hk]; exact h.2 κ
theorem bv_upd {its : Nat → It} {n : Nat} (he : (its n).elig = true) (h2 : ∀ j, best its n (its n).key = some j → (its j).qt ≤ (its n).qt) : upd (bv its n) (its n).key (qv (its n) n) = bv its (n + 1) := by
  funext κ
  unfold upd
  by_cases hk : κ = (its n).key
  · subst hk
    rw [if_pos rfl]
    unfold bv
    rw [best_take he h2]
    rfl
  · rw [if_neg hk]
    unfold bv
    rw [best_other hk]
end Go.Proofs.YbulkcggyDoor
