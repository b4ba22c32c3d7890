import Derived.Test.YbulkcgegC1
import Derived.Test.YbulkcgegB2
import Derived.Test.YbulkcgegB3
import Derived.Test.YbulkcgegB4
import Derived.Test.YbulkcgegB5
import Derived.ShutString
import Derived.ChangeOld
import Derived.Below
namespace Go.Proofs.Ybulkcgeg
open Go.ChangeShapes Go.WideShapes Go.ChangeAt Go.RowKit
set_option linter.unusedVariables false
theorem spill_walk (a : Option Addr) (b off len cap : Nat) (its : Nat → Item) (hd pk sa sb ex : Int) (we same : Bool) (w : World) (ha : 0 < len → a = some ⟨b, off, none⟩) (hit : ItemsAt w b off len its)
    (s0 : 0 ≤ sa) (s1 : sa ≤ 18446744073709551615) (hh0 : 0 ≤ hd) (hh1 : hd ≤ 65535) (hp0 : 0 ≤ pk) (hp1 : pk ≤ 65535) (x0 : -9223372036854775808 ≤ ex) (x1 : ex ≤ 9223372036854775807) :
    Calls Yba.prog 4 #[.slice a len cap, .int .u16 hd, .int .u16 pk, .bool we, .int .u64 sa, .bool same, .int .i64 sb, .int .i64 ex] w fun e w' => e = .returned (.bool true) ∧ Below w.heap.size w w' := by
  by_cases hlen : len ≤ 4096
  · cases we with
    | true => cases same with
      | true => exact spill_s1 a b off len cap its hd pk sa sb ex w hlen ha hit s0 s1 hh0 hh1 hp0 hp1 x0 x1
      | false => exact spill_o1 a b off len cap its hd pk sa sb ex w hlen ha hit s0 s1 hh0 hh1 hp0 hp1 x0 x1
    | false =>
      by_cases hpos : 0 < len
      · cases same with
        | true => exact spill_s3 a b off len cap its hd pk sa sb ex w hlen hpos ha hit s0 s1 hh0 hh1 hp0 hp1 x0 x1
        | false => exact spill_o3 a b off len cap its hd pk sa sb ex w hlen hpos ha hit s0 s1 hh0 hh1 hp0 hp1 x0 x1
      · have hz : len = 0 := by omega
        subst hz
        cases same with
        | true => exact spill_s2 a b off cap its hd pk sa sb ex w hit s0 s1 hh0 hh1 hp0 hp1 x0 x1
        | false => exact spill_o2 a b off cap its hd pk sa sb ex w hit s0 s1 hh0 hh1 hp0 hp1 x0 x1
  · exact spill_big a len cap hd pk sa sb ex we same w (by omega)
namespace SpillRow
theorem own : ownKnob Yba.prog.godebug = none := by kernel_rfl
theorem laidOut : laidOutB Yba.prog = true := by kernel_rfl
set_option maxRecDepth 100000 in
theorem lifted (os : Os) (started : os.Started) (H : Type) (enc : TypeId × Value → H) :
    ReturnsInHanded {} Yba.checked os 4 .any (Rows.lawS4114BSpillSpec.pre6 enc Yba.prog Yba.f4 Rows.lawS4114BSpillRow.domain false) (Rows.lawS4114BSpillSpec.post enc Yba.prog Yba.f4 false true false false) := by
  refine returnsInHanded_of_change (C := Yba.checked) own started (by kernel_rfl) Yba.func4
    (ChangeSpec.witness6 (enc := enc) (C := Yba.checked) false ⟨#[], #[.slice none 0 0, .int .u16 0, .int .u16 0, .bool false, .int .u64 0, .bool false, .int .i64 0, .int .i64 0], []⟩ 8 (by kernel_rfl) (by kernel_rfl) (by kernel_rfl) (by kernel_rfl)) ?_
  intro W base args ds gs before hval0 hW hcnd _
  have hval : ∀ (j : Nat) t v, Yba.f4.params[j]? = some t → args[j]? = some v → Value.okWide Yba.prog W .any base t v := hval0
  have hW' := hW
  obtain ⟨p, q, hA0, hV, rfl, hfz, hnd⟩ := hW
  have hA : DataW.TrodAll enc Yba.prog W 0 (fun _ => true) true Yba.f4.params.toList args.toList ds p := hA0
  rw [Yba.params4] at hA hval
  obtain ⟨v0, vs0, d0, ds0, p0, q0, hargs, rfl, rfl, h0, r0⟩ := trodAll_cons hA
  obtain ⟨v1, vs1, d1, ds1, p1, q1, rfl, rfl, rfl, h1, r1⟩ := trodAll_cons r0
  obtain ⟨v2, vs2, d2, ds2, p2, q2, rfl, rfl, rfl, h2, r2⟩ := trodAll_cons r1
  obtain ⟨v3, vs3, d3, ds3, p3, q3, rfl, rfl, rfl, h3, r3⟩ := trodAll_cons r2
  obtain ⟨v4, vs4, d4, ds4, p4, q4, rfl, rfl, rfl, h4, r4⟩ := trodAll_cons r3
  obtain ⟨v5, vs5, d5, ds5, p5, q5, rfl, rfl, rfl, h5, r5⟩ := trodAll_cons r4
  obtain ⟨v6, vs6, d6, ds6, p6, q6, rfl, rfl, rfl, h6, r6⟩ := trodAll_cons r5
  obtain ⟨v7, vs7, d7, ds7, p7, q7, rfl, rfl, rfl, h7, r7⟩ := trodAll_cons r6
  obtain ⟨rfl, rfl, rfl⟩ := trodAll_nil r7
  obtain rfl : args = #[v0, v1, v2, v3, v4, v5, v6, v7] := by cases args; simp_all
  obtain ⟨rfl, rfl⟩ := trodVars_none hV
  obtain ⟨a0, len0, cap0, rfl⟩ := okWide_slice Yba.underlying22 (hval 0 22 v0 rfl rfl)
  obtain ⟨x1, rfl, rfl, rfl, w1⟩ := open_int Yba.underlying65 (hval 1 65 v1 rfl rfl) h1
  obtain ⟨x2, rfl, rfl, rfl, w2⟩ := open_int Yba.underlying65 (hval 2 65 v2 rfl rfl) h2
  obtain ⟨x3, rfl, rfl, rfl⟩ := open_bool Yba.underlying4 (hval 3 4 v3 rfl rfl) h3
  obtain ⟨x4, rfl, rfl, rfl, w4⟩ := open_int Yba.underlying23 (hval 4 23 v4 rfl rfl) h4
  obtain ⟨x5, rfl, rfl, rfl⟩ := open_bool Yba.underlying4 (hval 5 4 v5 rfl rfl) h5
  obtain ⟨x6, rfl, rfl, rfl, w6⟩ := open_int Yba.underlying2 (hval 6 2 v6 rfl rfl) h6
  obtain ⟨x7, rfl, rfl, rfl, w7⟩ := open_int Yba.underlying2 (hval 7 2 v7 rfl rfl) h7
  have k0 := h0
  have lt0 : ∀ x ∈ p0, x.block < W.heap.size := by obtain ⟨m, hm⟩ := k0; exact DataW.trod_lt m _ _ _ hm
  obtain ⟨b, off, its, ha, hit⟩ : ∃ b off its, (0 < len0 → a0 = some ⟨b, off, none⟩) ∧ ItemsAt W b off len0 its := by
    obtain ⟨fuel, hf⟩ := h0
    obtain ⟨a, len, cap, b, off, its, hcs, ha, hit⟩ := items_open hf
    simp [Value.cells] at hcs
    obtain ⟨rfl, rfl, rfl⟩ := hcs
    exact ⟨b, off, its, ha, hit⟩
  clear hA0 hval0
  have b1 := bounds_u16 w1
  have b2 := bounds_u16 w2
  have b4 := bounds_u64 w4
  have b7 := bounds_i64 w7
  refine (spill_walk a0 b off len0 cap0 its x1 x2 x4 x6 x7 x3 x5 W ha hit b4.1 b4.2 b1.1 b1.2 b2.1 b2.2 b7.1 b7.2).mono fun e W' ⟨he, bel⟩ => ?_
  subst he
  exact ⟨_, rfl, _, _, _, [], _, [], hW', trodAll_mk1 (shut_bool Yba.underlying4 _), (trodAll_cons_mk (Below.trod laidOut (by kernel_rfl) (of_decide_eq_true (by kernel_rfl)) k0 bel lt0) (trodAll_cons_mk (shut_int Yba.underlying65 w1) (trodAll_cons_mk (shut_int Yba.underlying65 w2) (trodAll_cons_mk (shut_bool Yba.underlying4 _) (trodAll_cons_mk (shut_int Yba.underlying23 w4) (trodAll_cons_mk (shut_bool Yba.underlying4 _) (trodAll_cons_mk (shut_int Yba.underlying2 w6) (trodAll_cons_mk (shut_int Yba.underlying2 w7) trodAll_mk0)))))))), rfl, bel.frame _, fun h => by cases h⟩
theorem over : Rows.lawS4114BSpillRow.holds Yba.pinned (OpenSpec.ofChange Rows.lawS4114BSpillSpec) :=
  OpenClaim.holds_of_wide 4 Yba.f4 rfl rfl rfl rfl rfl rfl rfl ⟨rfl, rfl, rfl, rfl, rfl⟩ rfl rfl rfl rfl rfl (by kernel_rfl) Yba.func4 (by kernel_rfl)
    (of_decide_eq_true (by kernel_rfl)) (by unfold Func.isWrapper; first | (rw [if_pos (by decide +kernel)]; kernel_rfl) | (rw [if_neg (by decide +kernel)]; exact ⟨rfl, rfl⟩))
    (fun os started H enc _ => lifted os started H enc)
end SpillRow
/-- The statement. -/
theorem spill_proved : Rows.LawS4114BSpillSaid := SpillRow.over

end Go.Proofs.Ybulkcgeg
