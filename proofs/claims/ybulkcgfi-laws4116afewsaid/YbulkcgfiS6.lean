import Derived.Test.YbulkcgfiS5
namespace Go.Proofs.Ybulkcgfi
open Go.RowKit
set_option linter.unusedVariables false
set_option linter.unusedSimpArgs false
set_option maxRecDepth 100000
theorem order2_lt {d : Array ID} {a b k n : Nat} (ha : a < n) (hb : b < n) : (Sort.order2 Sort.ltStr d a b k).1 < n ∧ (Sort.order2 Sort.ltStr d a b k).2.1 < n ∧ (Sort.order2 Sort.ltStr d a b k).2.2 ≤ k + 1 := by
  unfold Sort.order2
  split <;> simp <;> omega
theorem SK.lt {w : World} {g sb : Nat} {d : Array ID} {k : Nat} {wr : World} (h : SK w g sb d k wr) {x : Nat} (hx : x < d.size) : g < wr.heap.size := by
  have hl : 0 < (idc d[x]!).length := by rw [idc_len, h.ok x hx]; omega
  exact World.block_lt_of_cell? _ _ (h.row x hx 0 _ (List.getElem?_eq_getElem hl))
set_option maxHeartbeats 4000000 in
theorem median_any (g sb cap a b c k : Nat) (d : Array ID) (w0 w : World) (h0 : SK w0 g sb d k w) (hne : g ≠ sb) (ha : a < d.size) (hb : b < d.size) (hc : c < d.size) (hn : d.size ≤ 1024) (hk : k ≤ 90) :
    Calls Yba.prog 30 #[.slice (some ⟨g, 0, none⟩) d.size cap, .int .i64 a, .int .i64 b, .int .i64 c, .pointer (some ⟨sb, 0, none⟩), .func (.func 8) #[] #[]] w fun e w' => e = .returned (.int .i64 (Sort.median Sort.ltStr d a b c k).1) ∧ SK w0 g sb d (Sort.median Sort.ltStr d a b c k).2 w' := by
  have hg : g < w.heap.size := h0.lt ha
  have e1 := order2_lt (d := d) (a := a) (b := b) (k := k) ha hb
  obtain ⟨r1, hr1⟩ : ∃ r, r = Sort.order2 Sort.ltStr d a b k := ⟨_, rfl⟩
  rw [← hr1] at e1
  obtain ⟨r2, hr2⟩ : ∃ r, r = Sort.order2 Sort.ltStr d r1.2.1 c r1.2.2 := ⟨_, rfl⟩
  have e2 := order2_lt (d := d) (a := r1.2.1) (b := c) (k := r1.2.2) e1.2.1 hc
  rw [← hr2] at e2
  obtain ⟨r3, hr3⟩ : ∃ r, r = Sort.order2 Sort.ltStr d r1.1 r2.1 r2.2.2 := ⟨_, rfl⟩
  have hm : Sort.median Sort.ltStr d a b c k = (r3.2.1, r3.2.2) := by unfold Sort.median; simp only; rw [← hr1, ← hr2, ← hr3]
  have H1 := hide (fun w h hg => order2_any g sb cap a b k d w0 w h hg hne ha hb hn (by omega))
  rw [← hr1] at H1
  have H2 := hide (fun w h hg => order2_any g sb cap r1.2.1 c r1.2.2 d w0 w h hg hne e1.2.1 hc hn (by omega))
  rw [← hr2] at H2
  have H3 := hide (fun w h hg => order2_any g sb cap r1.1 r2.1 r2.2.2 d w0 w h hg hne e1.1 e2.1 hn (by omega))
  rw [← hr3] at H3
  obtain ⟨p1, q1, k1⟩ := r1
  obtain ⟨p2, q2, k2⟩ := r2
  obtain ⟨p3, q3, k3⟩ := r3
  have HM := hide hm
  have H0 := hide (And.intro h0 hg)
  have hgw0 : g < w.heap.size := hg
  clear hr1 hr2 hr3 hm e1 e2 h0
  simp only at H1 H2 H3
  go_enter Yba.func30, Yba.ntmps30
  go_wp2_with (first
    | (go_at_call 31; with_reducible refine (H1.out _ H0.out.1 H0.out.2).mono ?_; rintro e w1 ⟨rfl, hs1⟩; have HS1 := hide hs1; clear hs1)
    | (go_at_call 31; with_reducible refine (H2.out _ HS1.out (HS1.out.lt ha)).mono ?_; rintro e w2 ⟨rfl, hs2⟩; have HS2 := hide hs2; clear hs2)
    | (go_at_call 31; with_reducible refine (H3.out _ HS2.out (HS2.out.lt ha)).mono ?_; rintro e w3 ⟨rfl, hs3⟩; have HS3 := hide hs3; clear hs3))
  go_ret
  rw [HM.out]
  exact ⟨rfl, HS3.out⟩
set_option maxHeartbeats 4000000 in
theorem medianAdj_any (g sb cap a k : Nat) (d : Array ID) (w0 w : World) (h0 : SK w0 g sb d k w) (hne : g ≠ sb) (ha0 : 0 < a) (ha : a + 1 < d.size) (hn : d.size ≤ 1024) (hk : k ≤ 90) :
    Calls Yba.prog 29 #[.slice (some ⟨g, 0, none⟩) d.size cap, .int .i64 a, .pointer (some ⟨sb, 0, none⟩), .func (.func 8) #[] #[]] w fun e w' => e = .returned (.int .i64 (Sort.medianAdjacent Sort.ltStr d a k).1) ∧ SK w0 g sb d (Sort.medianAdjacent Sort.ltStr d a k).2 w' := by
  obtain ⟨a', ha'⟩ : ∃ a', a' = a - 1 := ⟨_, rfl⟩
  obtain ⟨a2, ha2⟩ : ∃ a2, a2 = a + 1 := ⟨_, rfl⟩
  have n1 : IntKind.i64.wrap ((a : Int) - 1) = a' := by rw [wrap_in _ (by omega) (by omega)]; omega
  have n2 : IntKind.i64.wrap ((a : Int) + 1) = a2 := by rw [wrap_in _ (by omega) (by omega)]; omega
  have HM := hide (median_any g sb cap a' a a2 k d w0 w h0 hne (by omega) (by omega) (by omega) hn hk)
  have HE : Hid (Sort.medianAdjacent Sort.ltStr d a k = Sort.median Sort.ltStr d a' a a2 k) := ⟨by unfold Sort.medianAdjacent; rw [ha', ha2]⟩
  clear ha' ha2 h0
  go_enter Yba.func29, Yba.ntmps29
  go_wp2_with (first | (go_at_call 30; refine HM.out.mono ?_; rintro e w1 ⟨rfl, hs1⟩; have HS1 := hide hs1; clear hs1))
  go_ret
  rw [HE.out]
  exact ⟨rfl, HS1.out⟩
end Go.Proofs.Ybulkcgfi
