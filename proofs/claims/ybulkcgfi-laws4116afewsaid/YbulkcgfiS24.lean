import Derived.Test.YbulkcgfiS23
import Derived.Test.YbulkcgfiRows
import Derived.ProofKit
import Derived.OpenShut
import Derived.Deep.Slices
import Derived.Lib.SmallJoins
import Derived.ChangeOld
import Derived.Below
import Derived.Carry
namespace Go.Proofs.Ybulkcgfi
open Go.ChangeShapes Go.WideShapes Go.ChangeAt Go.RowKit Go.Deep Go.Joins
set_option linter.unusedVariables false
set_option linter.unusedSimpArgs false
theorem cells24 : Yba.prog.cellsOf 24 = 1 := by kernel_rfl
theorem plain_of_cell {w : World} {a : Addr} {v : Value} (h : w.cell? a = some v) : a = ⟨a.block, a.off, none⟩ := by
  obtain ⟨b, o, s⟩ := a
  cases s with
  | none => rfl
  | some s =>
    unfold World.cell? at h
    split at h <;> simp at h
set_option maxRecDepth 100000 in
theorem keys_open {H : Type} {enc : TypeId × Value → H} {W : World} {base : Nat} {spare : Nat → Bool} {held : Bool} {fuel : Nat} {cs : List Value} {x : DataW H × List MemPlace}
    (h : DataW.trod enc Yba.prog W base spare held fuel 22 cs = some x) : ∃ (a : Option Addr) (len cap : Nat) (ks : Nat → Int), cs = [.slice a len cap] ∧ (a = none → len = 0 ∧ cap = 0) ∧ ∀ ad, a = some ad → 0 < len → ∃ b o, ad = ⟨b, o, none⟩ ∧ ∀ i, i < len → W.cell? ⟨b, o + i, none⟩ = some (.int .u16 (ks i)) := by
  rcases open_slice Yba.underlying22 h with ⟨rfl, _⟩ | ⟨a, len, cap, m, n, D, Pl, rfl, hb, hl, hm, hmm, rfl, hx⟩
  · exact ⟨none, 0, 0, fun _ => 0, rfl, fun _ => ⟨rfl, rfl⟩, fun ad h => by cases h⟩
  · have hlm : len ≤ m := by rw [hmm]; split <;> omega
    have each : ∀ i, i < len → ∃ k : Int, W.cell? (a.add i) = some (.int .u16 k) := by
      intro i hi
      obtain ⟨cs', h1, h2⟩ := hx i (by omega)
      rw [cells24, Nat.mul_one] at h1
      obtain ⟨_, hlen, hcell⟩ := World.cells?_some h1
      obtain ⟨z, ez, _, wz⟩ := DataW.trod_int Yba.underlying24 h2
      subst ez
      have := hcell 0 (by omega)
      rw [show (a.add i).add 0 = a.add i by simp [Addr.add]] at this
      exact ⟨z, this⟩
    obtain ⟨ks, hks⟩ := choose_lt each
    refine ⟨some a, len, cap, ks, rfl, fun h => (by cases h), fun ad had hpos => ?_⟩
    cases had
    have h0 := hks 0 hpos
    rw [show a.add 0 = a by simp [Addr.add]] at h0
    have hp := plain_of_cell h0
    obtain ⟨b, o, s⟩ := a
    simp only [Addr.mk.injEq, true_and] at hp
    subst hp
    refine ⟨b, o, rfl, fun i hi => ?_⟩
    have := hks i hi
    rwa [Addr.add_mid] at this
theorem few_all (a : Option Addr) (len cap : Nat) (ks : Nat → Int) (w : World) (hno : a = none → len = 0 ∧ cap = 0) (hks : ∀ ad, a = some ad → 0 < len → ∃ b o, ad = ⟨b, o, none⟩ ∧ ∀ i, i < len → w.cell? ⟨b, o + i, none⟩ = some (.int .u16 (ks i))) :
    Calls Yba.prog 3 #[.slice a len cap] w fun e w' => e = .returned (.bool true) ∧ Below w.heap.size w w' := by
  by_cases h : 1024 < len
  · exact few_big a len cap w h
  · cases a with
    | none =>
      obtain ⟨rfl, rfl⟩ := hno rfl
      exact few_nil w
    | some ad => exact few_some ad len cap ks w (by omega) (hks ad rfl)
namespace FewRow
theorem own : ownKnob Yba.prog.godebug = none := by kernel_rfl
theorem laidOut : laidOutB Yba.prog = true := by kernel_rfl
set_option maxRecDepth 100000 in
theorem lifted (os : Os) (started : os.Started) (H : Type) (enc : TypeId × Value → H) :
    ReturnsInHanded {} Yba.checked os 3 .any (Rows.lawS4116AFewSpec.pre6 enc Yba.prog Yba.f3 Rows.lawS4116AFewRow.domain false) (Rows.lawS4116AFewSpec.post enc Yba.prog Yba.f3 false true false false) := by
  refine returnsInHanded_of_change (C := Yba.checked) own started (by kernel_rfl) Yba.func3
    (ChangeSpec.witness6 (enc := enc) (C := Yba.checked) false ⟨#[], #[.slice none 0 0], []⟩ 8 (by kernel_rfl) (by kernel_rfl) (by kernel_rfl) (by kernel_rfl)) ?_
  intro W base args ds gs before hval0 hW hcnd _
  have hval : ∀ (j : Nat) t v, Yba.f3.params[j]? = some t → args[j]? = some v → Value.okWide Yba.prog W .any base t v := hval0
  have hW' := hW
  obtain ⟨p, q, hA0, hV, rfl, hfz, hnd⟩ := hW
  have hA : DataW.TrodAll enc Yba.prog W 0 (fun _ => true) true Yba.f3.params.toList args.toList ds p := hA0
  rw [Yba.params3] at hA hval
  obtain ⟨v0, vs0, d0, ds0, p0, q0, hargs, rfl, rfl, h0, r0⟩ := trodAll_cons hA
  obtain ⟨rfl, rfl, rfl⟩ := trodAll_nil r0
  obtain rfl : args = #[v0] := by cases args; simp_all
  obtain ⟨rfl, rfl⟩ := trodVars_none hV
  obtain ⟨a0, len0, cap0, rfl⟩ := okWide_slice Yba.underlying22 (hval 0 22 v0 rfl rfl)
  have k0 := h0
  have lt0 : ∀ x ∈ p0, x.block < W.heap.size := by obtain ⟨m, hm⟩ := k0; exact DataW.trod_lt m _ _ _ hm
  obtain ⟨ks, hno, hks⟩ : ∃ ks : Nat → Int, (a0 = none → len0 = 0 ∧ cap0 = 0) ∧ ∀ ad, a0 = some ad → 0 < len0 → ∃ b o, ad = ⟨b, o, none⟩ ∧ ∀ i, i < len0 → W.cell? ⟨b, o + i, none⟩ = some (.int .u16 (ks i)) := by
    obtain ⟨fuel, hf⟩ := h0
    obtain ⟨a, len, cap, ks, hcs, h1, h2⟩ := keys_open hf
    simp [Value.cells] at hcs
    obtain ⟨rfl, rfl, rfl⟩ := hcs
    exact ⟨ks, h1, h2⟩
  clear hA0 hval0
  refine (few_all a0 len0 cap0 ks W hno hks).mono fun e W' ⟨he, bel⟩ => ?_
  subst he
  exact ⟨_, rfl, _, _, _, [], _, [], hW', trodAll_mk1 (shut_bool Yba.underlying4 _), (trodAll_cons_mk (Below.trod laidOut (by kernel_rfl) (of_decide_eq_true (by kernel_rfl)) k0 bel lt0) trodAll_mk0), rfl, bel.frame _, fun h => by cases h⟩
theorem over : Rows.lawS4116AFewRow.holds Yba.pinned (OpenSpec.ofChange Rows.lawS4116AFewSpec) :=
  OpenClaim.holds_of_wide 3 Yba.f3 rfl rfl rfl rfl rfl rfl rfl ⟨rfl, rfl, rfl, rfl, rfl⟩ rfl rfl rfl rfl rfl (by kernel_rfl) Yba.func3 (by kernel_rfl)
    (of_decide_eq_true (by kernel_rfl)) (by unfold Func.isWrapper; first | (rw [if_pos (by decide +kernel)]; kernel_rfl) | (rw [if_neg (by decide +kernel)]; exact ⟨rfl, rfl⟩))
    (fun os started H enc _ => lifted os started H enc)
end FewRow
/-- The statement. -/
theorem few_proved : Rows.LawS4116AFewSaid := FewRow.over
end Go.Proofs.Ybulkcgfi
