import Derived.Test.YbulkcgfiFmtG21
import Derived.Stop.LaidTwo
import Derived.Test.YbulkcgfiFmtRows
import Derived.Test.YbulkcgfiFmtCards
import Derived.Test.YbulkcgfiFmtTie
import Derived.ProofKit
import Derived.Stop.JoinedAt
import Derived.Stop.Texts
import Derived.Stop.LaidErr
import Derived.Stop.JoinedTold
import Derived.SevenTiedAt
import Derived.ChangeOld
import Derived.Below
import Derived.Carry
import Derived.ShutString
import Derived.OpenShut
namespace Go.Proofs.YbulkcgfiFmt
open Go.ChangeShapes Go.WideShapes Go.ChangeAt Go.RowKit Go.Kit
open Go.Extern.Stop Go.Stop Go.Extern
set_option linter.unusedVariables false
theorem Ybaf.cells5 : Ybaf.prog.cellsOf 5 = 1 := by kernel_rfl
theorem plain_of_cell {w : World} {a : Addr} {v : Value} (h : w.cell? a = some v) : a = ⟨a.block, a.off, none⟩ := by
  obtain ⟨b, o, s⟩ := a
  cases s with
  | none => rfl
  | some s =>
    unfold World.cell? at h
    split at h <;> simp at h
theorem bs_open {H : Type} {enc : TypeId × Value → H} {W : World} {base : Nat} {spare : Nat → Bool} {held : Bool} {a : Option Addr} {len cap : Nat} {d : DataW H} {p : List MemPlace} (h : DataW.Trod enc Ybaf.prog W base spare held 23 (.slice a len cap) d p) : ∃ f, BS W (.slice a len cap) len f := by
  obtain ⟨fuel, hf⟩ := h
  rcases open_ints Ybaf.underlying23 Ybaf.underlying5 Ybaf.cells5 hf with ⟨hcs, _⟩ | ⟨a', len', cap', zs, hcs, _, hl, _, hz, _, hcell, hw⟩
  · simp [Value.cells] at hcs
    obtain ⟨rfl, rfl, rfl⟩ := hcs
    exact ⟨fun _ => 0, ⟨none, 0, rfl, Nat.le_refl _, fun _ => rfl, fun i hi => by omega⟩⟩
  · simp [Value.cells] at hcs
    obtain ⟨rfl, rfl, rfl⟩ := hcs
    refine ⟨fun i => (zs.getD i 0).toNat, ⟨some a', cap, rfl, hl, (fun h => by cases h), fun i hi => ?_⟩⟩
    have hzl : len ≤ zs.length := by rw [hz]; split <;> omega
    have hc := hcell i (by omega)
    have hp : a' = ⟨a'.block, a'.off, none⟩ := by
      have h0 := hcell 0 (by omega)
      have h2 : a'.add 0 = a' := by simp [Addr.add]
      rw [h2] at h0
      exact plain_of_cell h0
    have hwf := hw (zs.getD i 0) (by rw [List.getD_eq_getElem?_getD, List.getElem?_eq_getElem (by omega)]; exact List.getElem_mem _)
    have hb : 0 ≤ zs.getD i 0 := by
      have := hwf
      simp [Lit.wf, IntKind.min, IntKind.max, IntKind.signed, IntKind.bits] at this
      simpa using this.1
    refine ⟨a'.block, a'.off, by rw [← hp], ?_⟩
    rw [hp, add_plain] at hc
    rw [hc]
    congr 2
    omega
set_option maxRecDepth 100000 in
set_option maxHeartbeats 400000 in
theorem arrive_big (last t : Int) (ka fa ia : Option Addr) (sel step : Int) (kl kc fl fc il ic : Nat) (w : World) (h : 1024 < kl ∨ 1024 < fl ∨ 8192 < il) :
    Calls Ybaf.prog 4 #[.int .u64 last, .int .u64 t, .slice ka kl kc, .int .u8 sel, .slice fa fl fc, .slice ia il ic, .int .u8 step] w fun e w' => e = .returned (.bool true) ∧ Below w.heap.size w w' := by
  by_cases h1 : 1024 < kl
  · have h1' : (1024 : Int) < kl := by omega
    clear h
    go_enter Ybaf.func4, Ybaf.ntmps4
    go_wp2
    go_ret
    exact ⟨rfl, Below.refl _ _⟩
  · have h1' : ¬ (1024 : Int) < kl := by omega
    by_cases h2 : 1024 < fl
    · have h2' : (1024 : Int) < fl := by omega
      clear h
      go_enter Ybaf.func4, Ybaf.ntmps4
      go_wp2
      go_ret
      exact ⟨rfl, Below.refl _ _⟩
    · have h2' : ¬ (1024 : Int) < fl := by omega
      have h3' : (8192 : Int) < il := by omega
      clear h
      go_enter Ybaf.func4, Ybaf.ntmps4
      go_wp2
      go_ret
      exact ⟨rfl, Below.refl _ _⟩
namespace ArrRow
theorem own : ownKnob Ybaf.prog.godebug = none := by kernel_rfl
theorem laidOut : laidOutB Ybaf.pinned.checked.prog = true := by kernel_rfl
theorem stops : Ybaf.pinned.checked.prog.stops = ["fmt.Sprintf", "fmt.errorf"] := by kernel_rfl
theorem stopKnobs : Ybaf.pinned.checked.prog.stopKnobs = [] := by kernel_rfl
theorem quiet (os : Os) : Stop.quiet Ybaf.pinned.checked.prog os := by
  intro k hk
  rw [stopKnobs] at hk
  cases hk
theorem gEOF : Ybaf.prog.globalNamed "io.EOF" = some 0 := by kernel_rfl
theorem star : "*" ++ "errors.errorString" = "*errors.errorString" := by decide
theorem row80 (u : TypeId) (h : Ybaf.prog.typeName? 3 u = some "*errors.errorString") : u = 80 :=
  typeName_ptr_named (nm := "errors.errorString") (by rw [star]; kernel_rfl) (by kernel_rfl) (by decide) u (by rw [star]; exact h)
abbrev eofS : ByteArray := { data := #[69, 79, 70] }
abbrev uneofS : ByteArray := { data := #[117, 110, 101, 120, 112, 101, 99, 116, 101, 100, 32, 69, 79, 70] }
noncomputable def low : Nat := (World.holding Ybaf.prog default ⟨#[], #[], []⟩).heap.size
noncomputable def laidWorld (os : Os) : World :=
  let w0 := World.holding Ybaf.prog os ⟨#[.cells #[.string eofS] 82, .cells #[.string uneofS] 82], #[], []⟩
  { w0 with heap := (w0.heap.modify 0 fun
      | .cells _ t frozen => .cells #[.iface 80 (.pointer (some ⟨low, 0, none⟩))] t frozen
      | o => o).modify 2 fun
      | .cells _ t frozen => .cells #[.iface 80 (.pointer (some ⟨low + 1, 0, none⟩))] t frozen
      | o => o }
theorem laid_met (os : Os) (args : Array Value) : laidMet Ybaf.prog Rows.lawS4116CArriveRow.laid ((laidWorld os).forCall (fun _ _ => 0) ⟨#[], args, []⟩).memory :=
  laidMet_of_run (ps := [.cell 0 0, .cell low 0, .cell 2 0, .cell (low + 1) 0]) 8 (by kernel_rfl) (by kernel_rfl) (by kernel_rfl)
set_option maxRecDepth 100000 in
theorem lifted (os : Os) (started : os.Started) (H : Type) (enc : TypeId × Value → H) :
    ReturnsInTold none {} Ybaf.checked os 4 .any Input.okWide ((OpenSpec.ofChange Rows.lawS4116CArriveSpec).preRow enc Ybaf.prog Ybaf.f4 Rows.lawS4116CArriveRow.domain false Rows.lawS4116CArriveRow.laid) (fun F => ((OpenSpec.ofChange Rows.lawS4116CArriveSpec).at F).post enc Ybaf.prog Ybaf.f4 false true false false) (aloneAtReturn Ybaf.prog) nothingAlways := by
  refine returnsInTold_of_row (C := Ybaf.checked) (s := OpenSpec.ofChange Rows.lawS4116CArriveSpec) (by kernel_rfl) own started (by kernel_rfl) Ybaf.func4
    (OpenSpec.witness_stopped_at (enc := enc) (C := Ybaf.checked) false (laidWorld os) #[.int .u64 0, .int .u64 0, .slice none 0 0, .int .u8 0, .slice none 0 0, .slice none 0 0, .int .u8 0] rfl (by kernel_rfl) (by kernel_rfl) (by kernel_rfl)
      (OpenSpec.preRow_of_B rfl 8 (by kernel_rfl) (by kernel_rfl) (laid_met os _))) ?_
  intro F W base args ds gs before _ hF hval0 hW _ _ _ hL _
  have hval : ∀ (j : Nat) t v, Ybaf.f4.params[j]? = some t → args[j]? = some v → Value.okWide Ybaf.prog W .any base t v := hval0
  have hW' := hW
  obtain ⟨p, q, hA0, hV, rfl, hfz, hnd⟩ := hW
  have hA : DataW.TrodAll enc Ybaf.prog W 0 (fun _ => true) true Ybaf.f4.params.toList args.toList ds p := hA0
  rw [Ybaf.params4] at hA hval
  obtain ⟨v0, vs0, d0, ds0, p0, q0, hargs, rfl, rfl, h0, r0⟩ := trodAll_cons hA
  obtain ⟨v1, vs1, d1, ds1, p1, q1, rfl, rfl, rfl, h1, r1⟩ := trodAll_cons r0
  obtain ⟨v2, vs2, d2, ds2, p2, q2, rfl, rfl, rfl, h2, r2⟩ := trodAll_cons r1
  obtain ⟨v3, vs3, d3, ds3, p3, q3, rfl, rfl, rfl, h3, r3⟩ := trodAll_cons r2
  obtain ⟨v4, vs4, d4, ds4, p4, q4, rfl, rfl, rfl, h4, r4⟩ := trodAll_cons r3
  obtain ⟨v5, vs5, d5, ds5, p5, q5, rfl, rfl, rfl, h5, r5⟩ := trodAll_cons r4
  obtain ⟨v6, vs6, d6, ds6, p6, q6, rfl, rfl, rfl, h6, r6⟩ := trodAll_cons r5
  obtain ⟨rfl, rfl, rfl⟩ := trodAll_nil r6
  obtain rfl : args = #[v0, v1, v2, v3, v4, v5, v6] := by cases args; simp_all
  obtain ⟨rfl, rfl⟩ := trodVars_none hV
  obtain ⟨x0, rfl, rfl, rfl, w0⟩ := open_int Ybaf.underlying22 (hval 0 22 v0 rfl rfl) h0
  obtain ⟨x1, rfl, rfl, rfl, w1⟩ := open_int Ybaf.underlying22 (hval 1 22 v1 rfl rfl) h1
  obtain ⟨a2, l2, c2, rfl⟩ := okWide_slice Ybaf.underlying23 (hval 2 23 v2 rfl rfl)
  obtain ⟨x3, rfl, rfl, rfl, w3⟩ := open_int Ybaf.underlying5 (hval 3 5 v3 rfl rfl) h3
  obtain ⟨a4, l4, c4, rfl⟩ := okWide_slice Ybaf.underlying23 (hval 4 23 v4 rfl rfl)
  obtain ⟨a5, l5, c5, rfl⟩ := okWide_slice Ybaf.underlying23 (hval 5 23 v5 rfl rfl)
  obtain ⟨x6, rfl, rfl, rfl, w6⟩ := open_int Ybaf.underlying5 (hval 6 5 v6 rfl rfl) h6
  have lt2 : ∀ x ∈ p2, x.block < W.heap.size := by obtain ⟨m, hm⟩ := h2; exact DataW.trod_lt m _ _ _ hm
  have lt4 : ∀ x ∈ p4, x.block < W.heap.size := by obtain ⟨m, hm⟩ := h4; exact DataW.trod_lt m _ _ _ hm
  have lt5 : ∀ x ∈ p5, x.block < W.heap.size := by obtain ⟨m, hm⟩ := h5; exact DataW.trod_lt m _ _ _ hm
  obtain ⟨f2, bs2⟩ := bs_open h2
  obtain ⟨f4, bs4⟩ := bs_open h4
  obtain ⟨f5, bs5⟩ := bs_open h5
  clear hA0 hval0
  have hL' : laidMet Ybaf.prog Rows.lawS4116CArriveRow.laid W := hL
  obtain ⟨a0, t0, hv0, hc0, ht0, _⟩ := laid_sentinel (g := 0) hL' (by kernel_rfl) (by kernel_rfl) Ybaf.underlying43 row80 Ybaf.underlying80 Ybaf.underlying82 rfl rfl Ybaf.underlying9 (by kernel_rfl) (by kernel_rfl)
  have hg0 : W.cell? ⟨0, 0, none⟩ = some (.iface 80 (.pointer (some a0))) := by simpa using World.var?_cell gEOF hv0 0
  have b0 : 0 ≤ x0 ∧ x0 ≤ 18446744073709551615 := by have := w0; simp [Lit.wf, IntKind.min, IntKind.max, IntKind.signed, IntKind.bits] at this; omega
  have b1 : 0 ≤ x1 ∧ x1 ≤ 18446744073709551615 := by have := w1; simp [Lit.wf, IntKind.min, IntKind.max, IntKind.signed, IntKind.bits] at this; omega
  have b3 : 0 ≤ x3 ∧ x3 ≤ 255 := by have := w3; simp [Lit.wf, IntKind.min, IntKind.max, IntKind.signed, IntKind.bits] at this; omega
  have b6 : 0 ≤ x6 ∧ x6 ≤ 255 := by have := w6; simp [Lit.wf, IntKind.min, IntKind.max, IntKind.signed, IntKind.bits] at this; omega
  obtain ⟨n0, rfl⟩ := Int.eq_ofNat_of_zero_le b0.1
  obtain ⟨n1, rfl⟩ := Int.eq_ofNat_of_zero_le b1.1
  obtain ⟨n3, rfl⟩ := Int.eq_ofNat_of_zero_le b3.1
  obtain ⟨n6, rfl⟩ := Int.eq_ofNat_of_zero_le b6.1
  have walk : Calls Ybaf.prog 4 #[.int .u64 (n0 : Int), .int .u64 (n1 : Int), .slice a2 l2 c2, .int .u8 (n3 : Int), .slice a4 l4 c4, .slice a5 l5 c5, .int .u8 (n6 : Int)] W fun e w' => e = .returned (.bool true) ∧ Below W.heap.size W w' := by
    by_cases hb : 1024 < l2 ∨ 1024 < l4 ∨ 8192 < l5
    · exact arrive_big _ _ _ _ _ _ _ _ _ _ _ _ _ W hb
    · exact arrive_any F.told n0 n1 _ _ _ n3 n6 l2 l4 l5 a0 f2 f4 f5 W hF (by omega) (by omega) (by omega) (by omega) hg0 (by omega) (by omega) (by omega) bs2 bs4 bs5
  refine walk.mono fun e W' ⟨he, bel⟩ => ?_
  subst he
  exact ⟨_, rfl, _, _, _, [], _, [], hW', trodAll_mk1 (shut_bool Ybaf.underlying4 _), (trodAll_cons_mk (shut_int Ybaf.underlying22 w0) (trodAll_cons_mk (shut_int Ybaf.underlying22 w1) (trodAll_cons_mk (Below.trod laidOut (by kernel_rfl) (of_decide_eq_true (by kernel_rfl)) h2 bel lt2) (trodAll_cons_mk (shut_int Ybaf.underlying5 w3) (trodAll_cons_mk (Below.trod laidOut (by kernel_rfl) (of_decide_eq_true (by kernel_rfl)) h4 bel lt4) (trodAll_cons_mk (Below.trod laidOut (by kernel_rfl) (of_decide_eq_true (by kernel_rfl)) h5 bel lt5) (trodAll_cons_mk (shut_int Ybaf.underlying5 w6) trodAll_mk0))))))), rfl, bel.frame _, fun h => by cases h⟩
end ArrRow
theorem arrive_proved : Rows.LawS4116CArriveToldSaid :=
  Claim7.holds_of_told_tied_any_at .later 4 Ybaf.f4 "fmt.Sprintf" ["fmt.errorf"] [] _ _ _ _ _ (by kernel_rfl) rfl rfl rfl ArrRow.laidOut (by kernel_rfl) rfl ⟨rfl, rfl, rfl, rfl, rfl, rfl, rfl⟩ rfl rfl (by kernel_rfl) (by kernel_rfl) Ybaf.func4 (by kernel_rfl)
    (of_decide_eq_true (by kernel_rfl)) (of_decide_eq_true (by kernel_rfl)) ArrRow.stops.symm rfl ArrRow.stopKnobs.symm (by kernel_rfl)
    (by kernel_rfl) (by kernel_rfl) (by kernel_rfl) (by kernel_rfl) (by kernel_rfl) (by kernel_rfl) (by kernel_rfl) (by kernel_rfl) (by kernel_rfl) rfl (by kernel_rfl) rfl rfl
    rfl rfl
    rfl (by kernel_rfl) (by kernel_rfl) (by kernel_rfl) (by decide) (by kernel_rfl) lawS4116CArrive_row_tie
    (OpenClaim.moreEntering_of (by kernel_rfl) (by kernel_rfl) (by kernel_rfl) (by kernel_rfl) (by kernel_rfl) (by kernel_rfl) (by kernel_rfl) (by kernel_rfl) (by kernel_rfl) (by kernel_rfl))
    ⟨_, WideRow.started_initial, ArrRow.quiet _⟩
    (fun os started _ H enc _ => ArrRow.lifted os started H enc)
end Go.Proofs.YbulkcgfiFmt
