import Derived.Test.YbulkcgfwH6
import Derived.Test.YbulkcgfwRows
import Derived.SliceStrings
import Derived.ProofKit
import Derived.OpenShut
import Derived.ShutString
import Derived.ChangeOld
import Derived.Below
import Derived.Carry
namespace Go.Proofs.Ybulkcgfw
open Go.ChangeShapes Go.WideShapes Go.ChangeAt Go.RowKit
set_option linter.unusedVariables false
set_option maxRecDepth 100000 in
set_option maxHeartbeats 1000000 in
theorem walk_big (bf bs : Bool) (s : ByteArray) (ca : Option Addr) (cl cc : Nat) (w : World) (h : 1024 < cl ∨ 65536 < s.size) :
    Calls Yba.prog 3 #[.bool bf, .bool bs, .string s, .slice ca cl cc] w fun e w' => e = .returned (.bool true) ∧ Below w.heap.size w w' := by
  have a : ∀ {u : World} (o : Obj), Below w.heap.size w u → Below w.heap.size w (u.alloc o) := fun o h => h.alloc h.size o
  have HA := hide (@a)
  clear a
  by_cases hc : 1024 < cl
  · have i1 : (1024 : Int) < cl := by omega
    go_enter Yba.func3, Yba.ntmps3
    go_wp2
    go_ret
    have a := @HA.out
    exact ⟨rfl, a _ (a _ (a _ (a _ (Below.refl _ _))))⟩
  · have i1 : ¬ (1024 : Int) < cl := by omega
    have i2 : (65536 : Int) < s.size := by omega
    go_enter Yba.func3, Yba.ntmps3
    go_wp2
    go_ret
    have a := @HA.out
    exact ⟨rfl, a _ (a _ (a _ (a _ (Below.refl _ _))))⟩
theorem walk_all (bf bs : Bool) (s : ByteArray) (ca : Option Addr) (cl cc : Nat) (str : Nat → ByteArray) (w : World) (hstr : ∀ i, i < cl → ∃ b o, ca = some ⟨b, o, none⟩ ∧ w.cell? ⟨b, o + i, none⟩ = some (.string (str i))) :
    Calls Yba.prog 3 #[.bool bf, .bool bs, .string s, .slice ca cl cc] w fun e w' => e = .returned (.bool true) ∧ Below w.heap.size w w' := by
  by_cases h : 1024 < cl ∨ 65536 < s.size
  · exact walk_big bf bs s ca cl cc w h
  · exact walk_any bf bs s ca cl cc str w hstr (by omega) (by omega)
theorem plain_of_cell {w : World} {a : Addr} {v : Value} (h : w.cell? a = some v) : a = ⟨a.block, a.off, none⟩ := by
  obtain ⟨b, o, s⟩ := a
  cases s with
  | none => rfl
  | some s => 
    unfold World.cell? at h
    split at h <;> simp at h
namespace WalkRow
theorem own : ownKnob Yba.prog.godebug = none := by kernel_rfl
theorem laidOut : laidOutB Yba.prog = true := by kernel_rfl
theorem cells9 : Yba.prog.cellsOf 9 = 1 := by kernel_rfl
set_option maxRecDepth 100000 in
theorem lifted (os : Os) (started : os.Started) (H : Type) (enc : TypeId × Value → H) :
    ReturnsInHanded {} Yba.checked os 3 .any (Rows.lawS4117AWalkSpec.pre6 enc Yba.prog Yba.f3 Rows.lawS4117AWalkRow.domain false) (Rows.lawS4117AWalkSpec.post enc Yba.prog Yba.f3 false true false false) := by
  refine returnsInHanded_of_change (C := Yba.checked) own started (by kernel_rfl) Yba.func3
    (ChangeSpec.witness6 (enc := enc) (C := Yba.checked) false ⟨#[], #[.bool false, .bool false, .string ⟨#[]⟩, .slice none 0 0], []⟩ 8 (by kernel_rfl) (by kernel_rfl) (by kernel_rfl) (by kernel_rfl)) ?_
  intro W base args ds gs before hval0 hW hcnd _
  have hval : ∀ (j : Nat) t v, Yba.f3.params[j]? = some t → args[j]? = some v → Value.okWide Yba.prog W .any base t v := hval0
  have hW' := hW
  obtain ⟨p, q, hA0, hV, rfl, hfz, hnd⟩ := hW
  have hA : DataW.TrodAll enc Yba.prog W 0 (fun _ => true) true Yba.f3.params.toList args.toList ds p := hA0
  rw [Yba.params3] at hA hval
  obtain ⟨v0, vs0, d0, ds0, p0, q0, hargs, rfl, rfl, h0, r0⟩ := trodAll_cons hA
  obtain ⟨v1, vs1, d1, ds1, p1, q1, rfl, rfl, rfl, h1, r1⟩ := trodAll_cons r0
  obtain ⟨v2, vs2, d2, ds2, p2, q2, rfl, rfl, rfl, h2, r2⟩ := trodAll_cons r1
  obtain ⟨v3, vs3, d3, ds3, p3, q3, rfl, rfl, rfl, h3, r3⟩ := trodAll_cons r2
  obtain ⟨rfl, rfl, rfl⟩ := trodAll_nil r3
  obtain rfl : args = #[v0, v1, v2, v3] := by cases args; simp_all
  obtain ⟨rfl, rfl⟩ := trodVars_none hV
  obtain ⟨x0, rfl, rfl, rfl⟩ := open_bool Yba.underlying4 (hval 0 4 v0 rfl rfl) h0
  obtain ⟨x1, rfl, rfl, rfl⟩ := open_bool Yba.underlying4 (hval 1 4 v1 rfl rfl) h1
  have k2 := h2
  obtain ⟨x2, rfl, rfl, rfl, w2⟩ := Go.ChangeMaps.open_string Yba.underlying9 (hval 2 9 v2 rfl rfl) h2
  obtain ⟨a3, len3, cap3, rfl⟩ := okWide_slice Yba.underlying22 (hval 3 22 v3 rfl rfl)
  have k3 := h3
  have lt3 : ∀ x ∈ p3, x.block < W.heap.size := by obtain ⟨m, hm⟩ := k3; exact DataW.trod_lt m _ _ _ hm
  obtain ⟨str, hstr⟩ : ∃ str : Nat → ByteArray, ∀ i, i < len3 → ∃ b o, a3 = some ⟨b, o, none⟩ ∧ W.cell? ⟨b, o + i, none⟩ = some (.string (str i)) := by
    obtain ⟨fuel, hf⟩ := h3
    rcases open_strings Yba.underlying22 Yba.underlying9 cells9 hf with ⟨hcs, hx⟩ | ⟨a, len', cap', ss, hcs, _, hl, hm, hz, hx, hcell, hsz⟩
    · simp [Value.cells] at hcs
      obtain ⟨rfl, rfl, rfl⟩ := hcs
      exact ⟨fun _ => ByteArray.empty, fun i h => by omega⟩
    · simp [Value.cells] at hcs
      obtain ⟨rfl, rfl, rfl⟩ := hcs
      refine ⟨fun i => ss.getD i ByteArray.empty, fun i hi => ?_⟩
      have hlm : len3 ≤ ss.length := by rw [hz]; split <;> omega
      have c0 := hcell 0 (by omega)
      rw [show a.add 0 = a by simp [Addr.add]] at c0
      have hp := plain_of_cell c0
      have ci := hcell i (by omega)
      obtain ⟨b, o, sp⟩ := a
      simp only [Addr.mk.injEq, true_and] at hp
      subst hp
      refine ⟨b, o, rfl, ?_⟩
      rw [show (⟨b, o, none⟩ : Addr).add i = ⟨b, o + i, none⟩ by unfold Addr.add; split <;> simp_all] at ci
      exact ci
  clear hA0 hval0
  refine (walk_all x0 x1 x2 a3 len3 cap3 str W hstr).mono fun e W' ⟨he, bel⟩ => ?_
  subst he
  exact ⟨_, rfl, _, _, _, [], _, [], hW', trodAll_mk1 (shut_bool Yba.underlying4 _), (trodAll_cons_mk (shut_bool Yba.underlying4 _) (trodAll_cons_mk (shut_bool Yba.underlying4 _) (trodAll_cons_mk (Below.trod laidOut (by kernel_rfl) (of_decide_eq_true (by kernel_rfl)) k2 bel (fun x hx => by cases hx)) (trodAll_cons_mk (Below.trod laidOut (by kernel_rfl) (of_decide_eq_true (by kernel_rfl)) k3 bel lt3) trodAll_mk0)))), rfl, bel.frame _, fun h => by cases h⟩
theorem over : Rows.lawS4117AWalkRow.holds Yba.pinned (OpenSpec.ofChange Rows.lawS4117AWalkSpec) :=
  OpenClaim.holds_of_wide 3 Yba.f3 rfl rfl rfl rfl rfl rfl rfl ⟨rfl, rfl, rfl, rfl, rfl⟩ rfl rfl rfl rfl rfl (by kernel_rfl) Yba.func3 (by kernel_rfl)
    (of_decide_eq_true (by kernel_rfl)) (by unfold Func.isWrapper; first | (rw [if_pos (by decide +kernel)]; kernel_rfl) | (rw [if_neg (by decide +kernel)]; exact ⟨rfl, rfl⟩))
    (fun os started H enc _ => lifted os started H enc)
end WalkRow
/-- The statement. -/
theorem walk_proved : Rows.LawS4117AWalkSaid := WalkRow.over
end Go.Proofs.Ybulkcgfw
