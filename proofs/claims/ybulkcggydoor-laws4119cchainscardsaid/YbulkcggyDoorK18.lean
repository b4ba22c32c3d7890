import Derived.Test.YbulkcggyDoorK15
import Derived.Test.YbulkcggyDoorK17
import Derived.Test.YbulkcggyDoorCards
import Derived.Test.YbulkcggyDoorTie
import Derived.ChangeSame
import Derived.ChangeVars
import Derived.JoinedOf
import Derived.LaidLaws
import Derived.LaidHandle
import Derived.Stop.Joined
import Derived.SevenTiedAt
import Derived.ChangeOld
import Derived.Carry
namespace Go.Proofs.YbulkcggyDoor
open Go.ChangeShapes Go.WideShapes Go.ChangeAt Go.RowKit
set_option linter.unusedVariables false
set_option maxRecDepth 100000
theorem law_big (st : Int) (ia : Option Addr) (n icap : Nat) (w : World) (h : 1024 < n) :
    Calls Ybad.prog 3 #[.slice ia n icap, .int .u16 st] w fun e w' => e = .returned (.bool true) ∧ Below w.heap.size w w' := by
  have i1 : (1024 : Int) < n := by omega
  go_enter Ybad.func3, Ybad.ntmps3
  go_wp2
  go_ret
  exact ⟨rfl, Below.refl _ _⟩
theorem law_all (its : Nat → It) (st : Int) (ia : Option Addr) (n icap : Nat) (w : World) (hok : ∀ i, i < n → (its i).ok) (hs0 : 0 ≤ st) (hs1 : st ≤ 65535) (hrow : ∀ i, i < n → ∃ ib io, ia = some ⟨ib, io, none⟩ ∧ I6 w ib (io + i * 6) (its i)) :
    Calls Ybad.prog 3 #[.slice ia n icap, .int .u16 st] w fun e w' => e = .returned (.bool true) ∧ Below w.heap.size w w' := by
  by_cases h : 1024 < n
  · exact law_big st ia n icap w h
  · exact law_any its st ia n icap w hok (by omega) hs0 hs1 hrow
namespace ChainsRow
theorem own : ownKnob Ybad.prog.godebug = none := by kernel_rfl
theorem laidOut : laidOutB Ybad.prog = true := by kernel_rfl
/-- A world that meets the condition: the settled one, the variable's cells laid. -/
noncomputable def laidWorld (os : Os) : World :=
  let w0 := World.holding Ybad.prog os ⟨#[], #[], []⟩
  { w0 with heap := w0.heap.modify 0 fun
      | .cells _ t frozen => .cells #[.string ⟨#[85, 84, 67]⟩, .slice none 0 0, .slice none 0 0, .string ⟨#[]⟩, .int .i64 0, .int .i64 0, .pointer none] t frozen
      | o => o }
theorem laid_met (os : Os) (args : Array Value) : laidMetH Ybad.prog Rows.lawS4119CChainsRow.laid ((laidWorld os).forCall (fun _ _ => 0) ⟨#[], args, []⟩).memory :=
  laidMetH_of_parts (laidMet_of_run (ps := [.cell 0 0, .cell 0 1, .cell 0 2, .cell 0 3, .cell 0 4, .cell 0 5, .cell 0 6]) 8 (by kernel_rfl) (by kernel_rfl) (by kernel_rfl)) (by kernel_rfl)
theorem lifted (os : Os) (started : os.Started) (H : Type) (enc : TypeId × Value → H) :
    ReturnsInHanded {} Ybad.checked os 3 .any (fun w args => (Rows.lawS4119CChainsSpec.pre enc Ybad.prog Ybad.f3 [] false w args ∧ laidMetH Ybad.prog Rows.lawS4119CChainsRow.laid w) ∧ sizedMet enc Ybad.prog Ybad.f3 (OpenSpec.ofChange Rows.lawS4119CChainsSpec) false w args)
      (Rows.lawS4119CChainsSpec.post enc Ybad.prog Ybad.f3 false true false false) := by
  refine returnsInHanded_of_change_and (C := Ybad.checked) (X := fun w _ => laidMetH Ybad.prog Rows.lawS4119CChainsRow.laid w) (fun _ _ _ hh h => h.of_heap hh) own started (by kernel_rfl) Ybad.func3
    (ChangeSpec.witness_at (enc := enc) (C := Ybad.checked) (os := os) (X := fun w _ => laidMetH Ybad.prog Rows.lawS4119CChainsRow.laid w) false (laidWorld os) #[.slice none 0 0, .int .u16 0] 8 rfl (by kernel_rfl) (by kernel_rfl) (by kernel_rfl) (by kernel_rfl) (by kernel_rfl) (laid_met os _)) ?_
  intro W base args ds gs before hval0 hW _ _ hL _
  have hval : ∀ (j : Nat) t v, Ybad.f3.params[j]? = some t → args[j]? = some v → Value.okWide Ybad.prog W .any base t v := hval0
  have hW' := hW
  obtain ⟨p, q, hA0, hV, rfl, hfz, hnd⟩ := hW
  have hA : DataW.TrodAll enc Ybad.prog W 0 (fun _ => true) true Ybad.f3.params.toList args.toList ds p := hA0
  rw [Ybad.params3] at hA hval
  obtain ⟨v0, v1, d0, d1, p0, p1, rfl, rfl, rfl, h0, h1⟩ := trodAll_two hA
  obtain ⟨rfl, rfl⟩ := trodVars_none hV
  obtain ⟨a0, len0, cap0, rfl⟩ := okWide_slice Ybad.underlying22 (hval 0 22 v0 rfl rfl)
  obtain ⟨x1, rfl, rfl, rfl, w1⟩ := open_int Ybad.underlying23 (hval 1 23 v1 rfl rfl) h1
  have k0 := h0
  have lt0 : ∀ x ∈ p0, x.block < W.heap.size := by obtain ⟨m, hm⟩ := k0; exact DataW.trod_lt m _ _ _ hm
  obtain ⟨its, hok, hit⟩ : ∃ its : Nat → It, (∀ i, i < len0 → (its i).ok) ∧ ∀ i, i < len0 → ∃ ib io, a0 = some ⟨ib, io, none⟩ ∧ I6 W ib (io + i * 6) (its i) := by
    obtain ⟨fuel, hf⟩ := h0
    obtain ⟨a, len, cap, its, hcs, hok, hit⟩ := items_open hf
    simp [Value.cells] at hcs
    obtain ⟨rfl, rfl, rfl⟩ := hcs
    exact ⟨its, hok, hit⟩
  clear hA0 hval0
  have b1 := bounds_u16 w1
  refine (law_all its x1 a0 len0 cap0 W hok b1.1 b1.2 hit).mono fun e W' ⟨he, bel⟩ => ?_
  subst he
  exact ⟨_, rfl, _, _, _, [], _, [], hW', trodAll_mk1 (shut_bool Ybad.underlying4 _), (trodAll_cons_mk (Below.trod laidOut (by kernel_rfl) (of_decide_eq_true (by kernel_rfl)) k0 bel lt0) (trodAll_cons_mk (shut_int Ybad.underlying23 w1) trodAll_mk0)), rfl, bel.frame _, fun h => by cases h⟩
theorem over : Rows.lawS4119CChainsRow.holds Ybad.pinned (OpenSpec.ofChange Rows.lawS4119CChainsSpec) :=
  OpenClaim.holds_of_wide 3 Ybad.f3 rfl rfl rfl rfl rfl rfl rfl ⟨rfl, rfl, rfl, rfl, rfl⟩ rfl rfl rfl rfl rfl (by kernel_rfl) Ybad.func3 (by kernel_rfl)
    (of_decide_eq_true (by kernel_rfl)) (by unfold Func.isWrapper; first | (rw [if_pos (by decide +kernel)]; kernel_rfl) | (rw [if_neg (by decide +kernel)]; exact ⟨rfl, rfl⟩))
    (fun os started H enc _ => lifted os started H enc)
end ChainsRow
/-- The statement: the tied card. -/
theorem chains_proved : Rows.LawS4119CChainsCardSaid :=
  Claim7.holds_tied_plain_at .later [] [.wider] true (true, "e704f59fa02046af578a84d77172deea4249ea3246d09e7e2108a315f7626e4c") false
    ChainsRow.over (fun _ h => by cases h) (by kernel_rfl) (fun _ h => by cases h) lawS4119CChains_row_tie rfl ⟨rfl, rfl⟩ (by kernel_rfl) rfl
    (fun f fn hf hfn => by
      obtain rfl : f = 3 := Option.some.inj ((show Ybad.prog.funcNamed "example.com/quorumprice/quorumprice.LawS4119CChains" = some 3 by kernel_rfl).symm.trans hf) |>.symm
      obtain rfl : fn = Ybad.f3 := (Option.some.inj (Ybad.func3.symm.trans hfn)).symm
      exact ⟨by kernel_rfl, fun j t ht => by
        rw [Ybad.params3] at ht
        have h3 : t = 22 ∨ t = 23 := by
          rcases j with _ | _ | j
          · left; simpa using ht.symm
          · right; simpa using ht.symm
          · simp at ht
        rcases h3 with rfl | rfl
        · exact (show Ybad.prog.wantsStandIn 22 = false by kernel_rfl)
        · exact (show Ybad.prog.wantsStandIn 23 = false by kernel_rfl)⟩)
    (by kernel_rfl)
end Go.Proofs.YbulkcggyDoor
