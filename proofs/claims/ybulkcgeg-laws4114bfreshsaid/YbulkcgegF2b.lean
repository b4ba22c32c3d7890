import Derived.Test.YbulkcgegF2
namespace Go.Proofs.Ybulkcgeg
open Go.RowKit Go.Maps Go.WideMaps
theorem idx_id (x : Nat) (w : World) : (Instr.index 9 (.string (idOf x)) (.int .i64 0)).run Yba.prog w = .ok (.int .u8 (97 + ((x % 26 : Nat) : Int))) w ∧ (Instr.index 9 (.string (idOf x)) (.int .i64 1)).run Yba.prog w = .ok (.int .u8 (97 + ((x / 26 % 26 : Nat) : Int))) w ∧ (Instr.index 9 (.string (idOf x)) (.int .i64 2)).run Yba.prog w = .ok (.int .u8 (97 + ((x / 676 % 26 : Nat) : Int))) w := by
  have hs : (idOf x).size = 3 := rfl
  refine ⟨?_, ?_, ?_⟩
  · rw [run_index_string w 9 (idOf x) .i64 0 Yba.underlying9, dif_pos ⟨by omega, by rw [hs]; omega⟩]
    have : ((idOf x)[(0 : Int).toNat]'(by rw [hs]; decide)).toNat = 97 + x % 26 := by
      show (UInt8.ofNat (97 + (x : Int) % 26).toNat).toNat = _
      rw [UInt8.toNat_ofNat']; omega
    congr 2
    rw [this]; omega
  · rw [run_index_string w 9 (idOf x) .i64 1 Yba.underlying9, dif_pos ⟨by omega, by rw [hs]; omega⟩]
    have : ((idOf x)[(1 : Int).toNat]'(by rw [hs]; decide)).toNat = 97 + x / 26 % 26 := by
      show (UInt8.ofNat (97 + (x : Int) / 26 % 26).toNat).toNat = _
      rw [UInt8.toNat_ofNat']; omega
    congr 2
    rw [this]; omega
  · rw [run_index_string w 9 (idOf x) .i64 2 Yba.underlying9, dif_pos ⟨by omega, by rw [hs]; omega⟩]
    have : ((idOf x)[(2 : Int).toNat]'(by rw [hs]; decide)).toNat = 97 + x / 676 % 26 := by
      show (UInt8.ofNat (97 + (x : Int) / 676 % 26).toNat).toNat = _
      rw [UInt8.toNat_ofNat']; omega
    congr 2
    rw [this]; omega
def seenB (g : Nat → Nat) : Nat → Nat → Bool
  | 0, _ => false
  | k + 1, x => seenB g k x || g k == x
theorem seenB_iff (g : Nat → Nat) (x : Nat) : ∀ k, seenB g k x = true ↔ ∃ j, j < k ∧ g j = x
  | 0 => by simp [seenB]
  | k + 1 => by
    simp only [seenB, Bool.or_eq_true, seenB_iff g x k, beq_iff_eq]
    constructor
    · rintro (⟨j, h1, h2⟩ | h)
      · exact ⟨j, by omega, h2⟩
      · exact ⟨k, by omega, h⟩
    · rintro ⟨j, h1, h2⟩
      by_cases e : j = k
      · right; rw [← e]; exact h2
      · left; exact ⟨j, by omega, h2⟩
theorem seenB_new {g : Nat → Nat} {k n : Nat} (hk : k < n) (inj : ∀ j j', j < n → j' < n → g j = g j' → j = j') : seenB g k (g k) = false := by
  cases h : seenB g k (g k) with
  | false => rfl
  | true =>
    obtain ⟨j, h1, h2⟩ := (seenB_iff g (g k) k).1 h
    have := inj j k (by omega) hk h2
    omega
theorem QF.setOther {c : Cx} {w0 wr : World} {f' : Nat → Wt} {D : DataW Unit} {xb : Int} (h : QF c w0 wr f' D xb) (hc : c.ok) {nb j : Nat} (v : Value) (h1 : c.K + c.nc ≤ nb) (h2 : nb ≠ c.m) (h3 : nb ≠ c.b) (h4 : w0.heap.size ≤ nb) : QF c w0 (wr.setCell ⟨nb, j, none⟩ v) f' D xb := by
  have hTK := hc.TK
  have cb : ∀ b i, b ≠ nb → (wr.setCell ⟨nb, j, none⟩ v).cell? ⟨b, i, none⟩ = wr.cell? ⟨b, i, none⟩ := fun b i hb => World.cell?_setCell_other _ _ _ _ (by intro e; injection e with e1 e2 e3; exact hb e1.symm)
  exact ⟨⟨fun i hi => (cb _ _ (by omega)).trans (h.heap.tab i hi), fun i o hi => by rw [World.frozen?_setCell]; exact h.heap.thaw i o hi, fun i hi => (h.heap.at_ i hi).of_eq fun j hj => cb _ _ (by omega)⟩, h.kp, h.zero, h.hp, (cb _ _ (Ne.symm h3)).trans h.c0, (cb _ _ (Ne.symm h3)).trans h.c1, (cb _ _ (Ne.symm h3)).trans h.c2, (cb _ _ (Ne.symm h3)).trans h.c3, (cb _ _ (Ne.symm h3)).trans h.c5, (cb _ _ (Ne.symm h3)).trans h.c11, (cb _ _ (Ne.symm h3)).trans h.c16,
    by rw [World.frozen?_setCell]; exact h.f16, h.own.setCell (by exact Ne.symm h2) _, h.has, h.size, h.fr.setCell (Or.inr h4) _⟩
/-- The state of the loop over the kept ones. -/
structure L4 (c : Cx) (w0 wr : World) (f' : Nat → Wt) (D : DataW Unit) (xb : Int) (g : Nat → Nat) (sb k : Nat) : Prop where
  qf : QF c w0 wr f' D xb
  seen : ∀ x, x < c.n → wr.cell? ⟨sb, x, none⟩ = some (.bool (seenB g k x))
  sfz : ∀ x, wr.frozen? ⟨sb, x, none⟩ = false
theorem L4.below {c : Cx} {w0 wr w2 : World} {f' : Nat → Wt} {D : DataW Unit} {xb : Int} {g : Nat → Nat} {sb k : Nat} (h : L4 c w0 wr f' D xb g sb k) (hb : Below wr.heap.size wr w2) (hs : sb < wr.heap.size) : L4 c w0 w2 f' D xb g sb k :=
  ⟨h.qf.below hb, fun x hx => cell_later hb (h.seen x hx), fun x => by rw [hb.frozen (by exact hs)]; exact h.sfz x⟩
theorem L4.step {c : Cx} {w0 wr : World} {f' : Nat → Wt} {D : DataW Unit} {xb : Int} {g : Nat → Nat} {sb k x : Nat} (h : L4 c w0 wr f' D xb g sb k) (hc : c.ok) (hx : g k = x) (hxn : x < c.n) (h1 : c.K + c.nc ≤ sb) (h2 : sb ≠ c.m) (h3 : sb ≠ c.b) (h4 : w0.heap.size ≤ sb) :
    L4 c w0 (wr.setCell ⟨sb, x, none⟩ (.bool true)) f' D xb g sb (k + 1) := by
  refine ⟨h.qf.setOther hc _ h1 h2 h3 h4, fun y hy => ?_, fun y => by rw [World.frozen?_setCell]; exact h.sfz y⟩
  by_cases e : y = x
  · subst e
    rw [World.cell?_setCell_same _ _ _ (h.seen y hy)]
    simp [seenB, hx]
  · rw [World.cell?_setCell_other _ _ _ _ (ne_off (Ne.symm e)), h.seen y hy]
    have : (g k == y) = false := by rw [hx]; simpa using Ne.symm e
    simp [seenB, this]
end Go.Proofs.Ybulkcgeg
