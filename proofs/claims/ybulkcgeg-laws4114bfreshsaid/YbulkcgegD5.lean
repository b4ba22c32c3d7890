import Derived.Test.YbulkcgegD4
import Derived.Maps.OwnSet
namespace Go.Proofs.Ybulkcgeg
open Go.RowKit
set_option linter.unusedVariables false
set_option linter.unusedSimpArgs false
theorem down_at (hb ho T K nc n i0 : Nat) (x : Int) (hx : x = i0) (f : Nat → Wt) (w : World) (hnc : nc ≤ 4) (hn : n ≤ nc * 1024) (hi : i0 < n) (hT : T < K) (hout : hb < K ∨ K + nc ≤ hb) (hc : w.cell? ⟨hb, ho, none⟩ = some (.slice (some ⟨T, 0, none⟩) nc nc))
    (hcn : w.cell? ⟨hb, ho + 1, none⟩ = some (.int .i64 n)) (hf : HeapAt w T K nc f) (hp : HP ltW n f (i0 + 1)) :
    Calls Yba.prog 24 #[.pointer (some ⟨hb, ho, none⟩), .int .i64 x] w fun e w' => e = .returned (.tuple #[]) ∧ (∃ f', HeapAt w' T K nc f' ∧ HP ltW n f' i0 ∧ Pm n f f') ∧ Fr (fun k => K ≤ k ∧ k < K + nc) w w' := by
  subst hx; exact down_any hb ho T K nc n i0 f w hnc hn hi hT hout hc hcn hf hp
set_option maxRecDepth 100000 in
set_option maxHeartbeats 1000000 in
theorem init_any (hb ho T K nc n : Nat) (f : Nat → Wt) (w : World) (hnc : nc ≤ 4) (hn : n ≤ nc * 1024) (hT : T < K) (hout : hb < K ∨ K + nc ≤ hb) (hc : w.cell? ⟨hb, ho, none⟩ = some (.slice (some ⟨T, 0, none⟩) nc nc))
    (hcn : w.cell? ⟨hb, ho + 1, none⟩ = some (.int .i64 n)) (hf : HeapAt w T K nc f) :
    Calls Yba.prog 22 #[.pointer (some ⟨hb, ho, none⟩)] w fun e w' => e = .returned (.tuple #[]) ∧ (∃ f', HeapAt w' T K nc f' ∧ HP ltW n f' 0 ∧ Pm n f f') ∧ Fr (fun k => K ≤ k ∧ k < K + nc) w w' := by
  go_enter Yba.func22, Yba.ntmps22
  go_wp2
  go_loopw [2] (fun i wr => ∃ (m : Nat) (f' : Nat → Wt), 2 * m ≤ n ∧ i = .int .i64 ((m : Int) - 1) ∧ HeapAt wr T K nc f' ∧ HP ltW n f' m ∧ Pm n f f' ∧ Fr (fun k => K ≤ k ∧ k < K + nc) w wr) (fun i _ => (intOf i + 1).toNat)
  case atStart => exact ⟨n / 2, f, by omega, by simp, hf, fun c h0 h1 h2 => by omega, Pm.refl _ _, Fr.refl _ _⟩
  case round =>
    obtain ⟨m, f', hm, rfl, hf', hhp, hpm, hfr⟩ := hrel
    have HH := hide (And.intro hf' (And.intro hhp (And.intro hpm hfr)))
    have HC := hide (And.intro (hfr.cell (by omega) hc) (hfr.cell (by omega) hcn))
    clear hf' hhp hpm hfr hf hc hcn
    by_cases h0 : 0 < m
    · have h0' : (0 : Int) ≤ (m : Int) - 1 := by omega
      go_wp2_with (go_at_call 24; refine (down_at hb ho T K nc n (m - 1) _ (by omega) f' _ hnc hn (by omega) hT hout HC.out.1 HC.out.2 HH.out.1 (by rw [show m - 1 + 1 = m by omega]; exact HH.out.2.1)).mono ?_; rintro e w1 ⟨rfl, ⟨f2, g1, g2, g3⟩, g4⟩)
      go_roundw
      case rel => exact ⟨m - 1, f2, by omega, by congr 1; omega, g1, g2, HH.out.2.2.1.trans g3, HH.out.2.2.2.trans g4⟩
      case measure => simp [intOf]; omega
    · have h0' : ¬ (0 : Int) ≤ (m : Int) - 1 := by omega
      go_wp2
      go_end0
      have hm0 : m = 0 := by omega
      obtain ⟨g1, g2, g3, g4⟩ := HH.out
      exact ⟨rfl, ⟨f', g1, by rw [hm0] at g2; exact g2, g3⟩, g4⟩
end Go.Proofs.Ybulkcgeg
