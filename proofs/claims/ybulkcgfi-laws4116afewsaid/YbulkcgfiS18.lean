import Derived.Test.YbulkcgfiS16
import Derived.Test.YbulkcgfiS17
namespace Go.Proofs.Ybulkcgfi
open Go.RowKit
set_option linter.unusedVariables false
set_option linter.unusedSimpArgs false
set_option maxRecDepth 100000
theorem mem_iff {d : Array ID} {v : ID} : v ∈ d.toList ↔ ∃ i, i < d.size ∧ d[i]! = v := by
  rw [Array.mem_toList_iff, Array.mem_iff_getElem]
  constructor
  · rintro ⟨i, hi, rfl⟩; exact ⟨i, hi, by simp [hi]⟩
  · rintro ⟨i, hi, rfl⟩; exact ⟨i, hi, by simp [hi]⟩
theorem CF.perm {d e r : Array ID} (h : CF e r) (hp : e.toList.Perm d.toList) : CF d r := by
  have hs : e.size = d.size := by have := hp.length_eq; simpa using this
  refine ⟨by rw [← hs]; exact h.le, h.asc, fun i hi => ?_, fun j hj => ?_⟩
  · obtain ⟨j, hj, ej⟩ := h.sub i hi
    obtain ⟨k, hk, ek⟩ := mem_iff.1 (hp.mem_iff.1 (mem_iff.2 ⟨j, hj, rfl⟩))
    exact ⟨k, hk, ej.trans ek.symm⟩
  · obtain ⟨k, hk, ek⟩ := mem_iff.1 (hp.mem_iff.2 (mem_iff.2 ⟨j, hj, rfl⟩))
    obtain ⟨i, hi, ei⟩ := h.sup k hk
    exact ⟨i, hi, ei.trans ek⟩
theorem sort_perm (d : Array ID) : (Sort.sort Sort.ltStr d).size = d.size ∧ (Sort.sort Sort.ltStr d).toList.Perm d.toList ∧ Sort.SortedIn Sort.ltStr 0 (Sort.sort Sort.ltStr d).size (Sort.sort Sort.ltStr d) := by
  obtain ⟨hP, hS⟩ := Sort.sort_sorts Sort.ltStr Sort.swo_ltStr d
  have h1 := hP.1
  refine ⟨h1, ?_, by rw [h1]; exact hS⟩
  have h2 := hP.2.2
  have e1 : (Sort.sort Sort.ltStr d).extract 0 d.size = Sort.sort Sort.ltStr d := by rw [← h1]; simp
  have e2 : d.extract 0 d.size = d := by simp
  rw [e1, e2] at h2
  exact h2
theorem sortids_any (g : Nat) (d : Array ID) (w : World) (h0 : SR w g d w) (hg : g < w.heap.size) (hn : d.size ≤ 1024) :
    Calls Yba.prog 5 #[.slice (some ⟨g, 0, none⟩) d.size d.size] w fun e w' => ∃ r : Array ID, e = .returned (.slice (some ⟨g, 0, none⟩) r.size d.size) ∧ SR w g r w' ∧ CF d r := by
  obtain ⟨s1, s2, s3⟩ := sort_perm d
  have HS := hide (sortf_any g d.size d w h0 hg hn)
  obtain ⟨t, ht⟩ : ∃ t, t = Sort.sort Sort.ltStr d := ⟨_, rfl⟩
  rw [← ht] at HS s1 s2 s3
  have HC : Hid (∀ w1, SR w g t w1 → Calls Yba.prog 9 #[.slice (some ⟨g, 0, none⟩) d.size d.size] w1 fun e w' => ∃ r : Array ID, e = .returned (.slice (some ⟨g, 0, none⟩) r.size d.size) ∧ SR w g r w' ∧ CF d r) := ⟨fun w1 h1 => by
    have h := compact_any g t w1 h1.self (by have := h1.fw.size; omega) (by omega) s3
    rw [s1] at h
    refine h.mono ?_
    rintro e w' ⟨r, he, hr, hf⟩
    exact ⟨r, he, h1.trans hr, hf.perm s2⟩⟩
  clear h0 ht s1 s2 s3
  go_enter Yba.func5, Yba.ntmps5
  go_wp2_with (first
    | (go_at_call 7; refine HS.out.mono ?_; rintro e w1 ⟨rfl, hs1⟩; have HS1 := hide hs1; clear hs1)
    | (go_at_call 9; refine (HC.out _ HS1.out).mono ?_; rintro e w2 ⟨r, rfl, hs2⟩; have HS2 := hide hs2; clear hs2))
  go_ret
  exact ⟨r, rfl, HS2.out⟩
theorem compact_nil (w : World) : Calls Yba.prog 9 #[.slice none 0 0] w fun e w' => e = .returned (.slice none 0 0) ∧ w' = w := by
  go_enter Yba.func9, Yba.ntmps9
  go_wp2
  go_ret
  exact ⟨rfl, rfl⟩
theorem sortids_nil (w : World) : Calls Yba.prog 5 #[.slice none 0 0] w fun e w' => e = .returned (.slice none 0 0) ∧ w' = w := by
  go_enter Yba.func5, Yba.ntmps5
  go_wp2_with (first
    | (go_at_call 7; refine (sortf_nil _).mono ?_; rintro e w1 ⟨rfl, rfl⟩)
    | (go_at_call 9; refine (compact_nil _).mono ?_; rintro e w2 ⟨rfl, rfl⟩))
  go_ret
  exact ⟨rfl, rfl⟩
end Go.Proofs.Ybulkcgfi
