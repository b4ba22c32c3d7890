import Derived.Test.YbulkcgfiS21
import Derived.Test.YbulkcgfiRows
import Derived.ProofKit
import Derived.OpenShut
import Derived.Deep.Slices
import Derived.Lib.SmallJoins
import Derived.ChangeOld
import Derived.Below
import Derived.Carry
namespace Go.Proofs.Ybulkcgfi
open Go.ChangeShapes Go.WideShapes Go.ChangeAt Go.RowKit Go.Deep Go.Joins
set_option linter.unusedVariables false
set_option linter.unusedSimpArgs false
theorem cells26 : Yba.prog.cellsOf 26 = 32 := by kernel_rfl
theorem idc_of : ∀ (cs : List Value), (∀ v ∈ cs, ∃ b : UInt8, v = .int .u8 b.toNat) → ∃ id : ID, idc id = cs
  | [], _ => ⟨[], rfl⟩
  | v :: r, h => by
    obtain ⟨b, hb⟩ := h v (by simp)
    obtain ⟨id, hid⟩ := idc_of r (fun u hu => h u (by simp [hu]))
    exact ⟨b :: id, by rw [← hid, hb]; rfl⟩
theorem byte_of {z : Int} (h0 : 0 ≤ z) (h1 : z ≤ 255) : ∃ b : UInt8, z = b.toNat := ⟨UInt8.ofNat z.toNat, by
  rw [UInt8.toNat_ofNat']
  omega⟩
set_option maxRecDepth 100000 in
theorem id_open {H : Type} {enc : TypeId × Value → H} {W : World} {base : Nat} {spare : Nat → Bool} {held : Bool} {fuel : Nat} {cs : List Value} {x : DataW H × List MemPlace}
    (h : DataW.trod enc Yba.prog W base spare held fuel 26 cs = some x) : ∃ id : ID, id.length = 32 ∧ cs = idc id := by
  obtain ⟨xs, m, _, _, hl, hxl, hx⟩ := DataW.trod_array Yba.underlying26 h
  rw [cells26] at hl
  obtain ⟨id, hid⟩ := idc_of cs (fun v hv => by
    obtain ⟨j, hj, rfl⟩ := List.mem_iff_getElem.1 hv
    have h1 := hx j (by omega)
    rw [cells5, Nat.mul_one, List.getElem?_eq_getElem (by omega)] at h1
    obtain ⟨z, ez, _, wz⟩ := DataW.trod_int Yba.underlying5 h1
    have e2 : (cs.drop j).take 1 = [cs[j]] := by
      rw [List.drop_eq_getElem_cons hj]; rfl
    rw [e2] at ez
    simp only [List.cons.injEq, and_true] at ez
    have b := bounds_u8 wz
    obtain ⟨b', hb'⟩ := byte_of b.1 b.2
    exact ⟨b', by rw [ez, hb']⟩)
  exact ⟨id, by rw [← idc_len, hid, hl], hid.symm⟩
theorem ids_open {H : Type} {enc : TypeId × Value → H} {W : World} {base : Nat} {spare : Nat → Bool} {held : Bool} {fuel : Nat} {cs : List Value} {x : DataW H × List MemPlace}
    (h : DataW.trod enc Yba.prog W base spare held fuel 23 cs = some x) : ∃ (a : Option Addr) (len cap : Nat) (d : Array ID), cs = [.slice a len cap] ∧ d.size = len ∧ (∀ x ∈ d.toList, x.length = 32) ∧ (a = none → len = 0 ∧ cap = 0) ∧ ∀ ad, a = some ad → ∀ j v, (flat d)[j]? = some v → W.cell? (ad.add j) = some v := by
  rcases open_slice Yba.underlying23 h with ⟨rfl, _⟩ | ⟨a, len, cap, m, n, D, Pl, rfl, hb, hl, hm, hmm, rfl, hx⟩
  · exact ⟨none, 0, 0, #[], rfl, rfl, fun x hx => by simp at hx, fun _ => ⟨rfl, rfl⟩, fun ad h => by cases h⟩
  · have hlm : len ≤ m := by rw [hmm]; split <;> omega
    have each : ∀ i, i < len → ∃ id : ID, id.length = 32 ∧ ∀ j v, (idc id)[j]? = some v → W.cell? (a.add (i * 32 + j)) = some v := by
      intro i hi
      obtain ⟨cs', h1, h2⟩ := hx i (by omega)
      rw [cells26] at h1
      obtain ⟨_, hlen, hcell⟩ := World.cells?_some h1
      obtain ⟨id, hid, rfl⟩ := id_open h2
      refine ⟨id, hid, fun j v hj => ?_⟩
      have hj32 : j < (idc id).length := (List.getElem?_eq_some_iff.1 hj).1
      have := hcell j (by rw [idc_len, hid] at hj32; exact hj32)
      rw [add_add] at this
      rw [this]
      exact hj
    obtain ⟨f, hf⟩ := choose_lt each
    have hok : ∀ x ∈ (Array.ofFn (n := len) (fun i => f i.val)).toList, x.length = 32 := fun x hx => by
      obtain ⟨i, hi, rfl⟩ := mem_iff.1 hx
      simp at hi
      rw [show (Array.ofFn (n := len) (fun i => f i.val))[i]! = f i by simp [hi]]
      exact (hf i hi).1
    refine ⟨some a, len, cap, Array.ofFn (n := len) (fun i => f i.val), rfl, by simp, hok, fun h => (by cases h), fun ad had j v hv => ?_⟩
    cases had
    have hj : j < len * 32 := by
      have h1 := (List.getElem?_eq_some_iff.1 hv).1
      have h2 : (flat (Array.ofFn (n := len) (fun i => f i.val))).length = len * 32 := by unfold flat; rw [flat_len _ hok]; simp
      omega
    have hi : j / 32 < len := by omega
    have hfa := flat_at _ hok (j / 32) (j % 32) (f (j / 32)) (by simp [hi]) (by omega)
    rw [show j / 32 * 32 + j % 32 = j by omega] at hfa
    have := (hf (j / 32) hi).2 (j % 32) v (hfa.symm.trans hv)
    rwa [show j / 32 * 32 + j % 32 = j by omega] at this
theorem any_all (a : Option Addr) (len cap : Nat) (d : Array ID) (w : World) (hd : d.size = len) (hok : ∀ x ∈ d.toList, x.length = 32) (hno : a = none → len = 0 ∧ cap = 0) (hsrc : ∀ ad, a = some ad → ∀ j v, (flat d)[j]? = some v → w.cell? (ad.add j) = some v) :
    Calls Yba.prog 4 #[.slice a len cap] w fun e w' => e = .returned (.bool true) ∧ Below w.heap.size w w' := by
  by_cases h : 1024 < len
  · exact any_big a len cap w h
  · cases a with
    | none =>
      obtain ⟨rfl, rfl⟩ := hno rfl
      exact any_nil w
    | some ad => exact any_some ad len cap d w hd (by omega) hok (hsrc ad rfl)
namespace AnyRow
theorem own : ownKnob Yba.prog.godebug = none := by kernel_rfl
theorem laidOut : laidOutB Yba.prog = true := by kernel_rfl
set_option maxRecDepth 100000 in
theorem lifted (os : Os) (started : os.Started) (H : Type) (enc : TypeId × Value → H) :
    ReturnsInHanded {} Yba.checked os 4 .any (Rows.lawS4116AAnySpec.pre6 enc Yba.prog Yba.f4 Rows.lawS4116AAnyRow.domain false) (Rows.lawS4116AAnySpec.post enc Yba.prog Yba.f4 false true false false) := by
  refine returnsInHanded_of_change (C := Yba.checked) own started (by kernel_rfl) Yba.func4
    (ChangeSpec.witness6 (enc := enc) (C := Yba.checked) false ⟨#[], #[.slice none 0 0], []⟩ 8 (by kernel_rfl) (by kernel_rfl) (by kernel_rfl) (by kernel_rfl)) ?_
  intro W base args ds gs before hval0 hW hcnd _
  have hval : ∀ (j : Nat) t v, Yba.f4.params[j]? = some t → args[j]? = some v → Value.okWide Yba.prog W .any base t v := hval0
  have hW' := hW
  obtain ⟨p, q, hA0, hV, rfl, hfz, hnd⟩ := hW
  have hA : DataW.TrodAll enc Yba.prog W 0 (fun _ => true) true Yba.f4.params.toList args.toList ds p := hA0
  rw [Yba.params4] at hA hval
  obtain ⟨v0, vs0, d0, ds0, p0, q0, hargs, rfl, rfl, h0, r0⟩ := trodAll_cons hA
  obtain ⟨rfl, rfl, rfl⟩ := trodAll_nil r0
  obtain rfl : args = #[v0] := by cases args; simp_all
  obtain ⟨rfl, rfl⟩ := trodVars_none hV
  obtain ⟨a0, len0, cap0, rfl⟩ := okWide_slice Yba.underlying23 (hval 0 23 v0 rfl rfl)
  have k0 := h0
  have lt0 : ∀ x ∈ p0, x.block < W.heap.size := by obtain ⟨m, hm⟩ := k0; exact DataW.trod_lt m _ _ _ hm
  obtain ⟨d, hd, hok, hno, hsrc⟩ : ∃ d : Array ID, d.size = len0 ∧ (∀ x ∈ d.toList, x.length = 32) ∧ (a0 = none → len0 = 0 ∧ cap0 = 0) ∧ ∀ ad, a0 = some ad → ∀ j v, (flat d)[j]? = some v → W.cell? (ad.add j) = some v := by
    obtain ⟨fuel, hf⟩ := h0
    obtain ⟨a, len, cap, d, hcs, h1, h2, h3, h4⟩ := ids_open hf
    simp [Value.cells] at hcs
    obtain ⟨rfl, rfl, rfl⟩ := hcs
    exact ⟨d, h1, h2, h3, h4⟩
  clear hA0 hval0
  refine (any_all a0 len0 cap0 d W hd hok hno hsrc).mono fun e W' ⟨he, bel⟩ => ?_
  subst he
  exact ⟨_, rfl, _, _, _, [], _, [], hW', trodAll_mk1 (shut_bool Yba.underlying4 _), (trodAll_cons_mk (Below.trod laidOut (by kernel_rfl) (of_decide_eq_true (by kernel_rfl)) k0 bel lt0) trodAll_mk0), rfl, bel.frame _, fun h => by cases h⟩
theorem over : Rows.lawS4116AAnyRow.holds Yba.pinned (OpenSpec.ofChange Rows.lawS4116AAnySpec) :=
  OpenClaim.holds_of_wide 4 Yba.f4 rfl rfl rfl rfl rfl rfl rfl ⟨rfl, rfl, rfl, rfl, rfl⟩ rfl rfl rfl rfl rfl (by kernel_rfl) Yba.func4 (by kernel_rfl)
    (of_decide_eq_true (by kernel_rfl)) (by unfold Func.isWrapper; first | (rw [if_pos (by decide +kernel)]; kernel_rfl) | (rw [if_neg (by decide +kernel)]; exact ⟨rfl, rfl⟩))
    (fun os started H enc _ => lifted os started H enc)
end AnyRow
/-- The statement. -/
theorem any_proved : Rows.LawS4116AAnySaid := AnyRow.over
end Go.Proofs.Ybulkcgfi
