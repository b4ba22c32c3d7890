import Derived.Test.YbulkcgfwH4
namespace Go.Proofs.Ybulkcgfw
open Go.RowKit
set_option linter.unusedVariables false
set_option linter.unusedSimpArgs false
/-- What WriteAllOrNothing leaves behind. -/
def BothPost (B cal nl sl ob x1 x2 cl : Nat) (bf bs : Bool) (s : ByteArray) (str : Nat → ByteArray) (w : World) (e : Ending) (w' : World) : Prop :=
  (bf = true ∧ e = .returned (.tuple #[.slice none 0 0, .iface 45 (.pointer (some ⟨x1, 0, none⟩))]) ∧ Fb B (S2 cal nl sl ob) w w' ∧ w'.cell? ⟨cal, 0, none⟩ = some (.int .i64 1) ∧ w'.cell? ⟨ob, 0, none⟩ = some (.slice none 0 0) ∧ ∃ g1 c1, w'.cell? ⟨nl, 0, none⟩ = some (.slice (some ⟨g1, 0, none⟩) 1 c1) ∧ w'.ownsRow B 4 1 (.slice (some ⟨g1, 0, none⟩) 1 c1) 1 [.bool true]) ∨
  (bf = false ∧ SecondPost B cal nl sl ob x2 cl bs s str w e w')
theorem SecondPost.of {B cal nl sl ob x2 cl : Nat} {bs : Bool} {s : ByteArray} {str : Nat → ByteArray} {w v : World} {e : Ending} {w' : World} (hf : Fb B (S2 cal nl sl ob) w v) (h : SecondPost B cal nl sl ob x2 cl bs s str v e w') : SecondPost B cal nl sl ob x2 cl bs s str w e w' := by
  obtain ⟨lv, ov, g1, c1, g3, c3, p1, p2, p3, p4⟩ := h
  exact ⟨lv, ov, g1, c1, g3, c3, p1, p2, hf.trans p3, p4⟩
set_option maxRecDepth 100000 in
set_option maxHeartbeats 1000000 in
theorem both (cal nl sl ow tx ff e1 ch fs e2 ob x1 x2 cl cc : Nat) (ca : Option Addr) (s : ByteArray) (bf bs : Bool) (str : Nat → ByteArray) (w : World) (h : Cs w cal nl sl ow tx ff e1 ch fs e2 ob s bf bs x1 x2 (.slice ca cl cc))
    (hd1 : cal ≠ nl ∧ cal ≠ sl ∧ nl ≠ sl ∧ ow ≠ cal ∧ ow ≠ nl ∧ ow ≠ sl ∧ ff ≠ cal ∧ ff ≠ nl ∧ ff ≠ sl ∧ e1 ≠ cal ∧ e1 ≠ nl ∧ e1 ≠ sl)
    (hS : ∀ g, g = ow ∨ g = tx ∨ g = ch ∨ g = fs ∨ g = e2 ∨ g = ff ∨ g = e1 → ¬ S2 cal nl sl ob g) (hob : ob ≠ cal ∧ ob ≠ nl ∧ ob ≠ sl)
    (hcl : cl ≤ 1024) (hss : s.size ≤ 65536) (hstr : ∀ i, i < cl → ∃ b o, ca = some ⟨b, o, none⟩ ∧ b < w.heap.size ∧ ¬ S2 cal nl sl ob b ∧ w.cell? ⟨b, o + i, none⟩ = some (.string (str i)))
    (hc : w.cell? ⟨cal, 0, none⟩ = some (.int .i64 0)) (hn : w.cell? ⟨nl, 0, none⟩ = some (.slice none 0 0)) (hs : w.cell? ⟨sl, 0, none⟩ = some (.slice none 0 0)) (hoc : w.cell? ⟨ob, 0, none⟩ = some (.slice none 0 0)) (hof : w.frozen? ⟨ob, 0, none⟩ = false) :
    Calls Yba.prog 6 #[.iface 26 (.pointer (some ⟨ob, 0, none⟩)), .func (.func 5) #[] #[.pointer (some ⟨cal, 0, none⟩), .pointer (some ⟨nl, 0, none⟩), .pointer (some ⟨sl, 0, none⟩), .pointer (some ⟨ow, 0, none⟩), .pointer (some ⟨tx, 0, none⟩), .pointer (some ⟨ff, 0, none⟩), .pointer (some ⟨e1, 0, none⟩), .pointer (some ⟨ch, 0, none⟩), .pointer (some ⟨fs, 0, none⟩), .pointer (some ⟨e2, 0, none⟩)]] w (BothPost w.heap.size cal nl sl ob x1 x2 cl bf bs s str w) := by
  have H := hide (And.intro h (And.intro hS (And.intro hstr (And.intro hc (And.intro hn (And.intro hs (And.intro hoc hof)))))))
  have HF := hide (first_call cal nl sl ow tx ff e1 ch fs e2 ob x1 x2 s bf bs (.slice ca cl cc) w h hd1 hc hn hs)
  have l1 : cal < w.heap.size := World.block_lt_of_cell? _ _ hc
  have l2 : nl < w.heap.size := World.block_lt_of_cell? _ _ hn
  have l3 : sl < w.heap.size := World.block_lt_of_cell? _ _ hs
  have l4 : ow < w.heap.size := World.block_lt_of_cell? _ _ h.owc
  have l5 : tx < w.heap.size := World.block_lt_of_cell? _ _ h.txc
  have l6 : ch < w.heap.size := World.block_lt_of_cell? _ _ h.chc
  have l7 : fs < w.heap.size := World.block_lt_of_cell? _ _ h.fsc
  have l8 : e2 < w.heap.size := World.block_lt_of_cell? _ _ h.e2c
  have l9 : ob < w.heap.size := World.block_lt_of_cell? _ _ hoc
  clear h hS hstr hc hn hs hoc hof
  go_enter Yba.func6, Yba.ntmps6
  go_wp2_with fail
  refine HF.out.mono ?_
  clear HF
  rintro e w1 ⟨⟨rv, rfl, hrv⟩, hfw, hfz, hc1, g2, cap2, g4, cap4, hne, hn1, hno1, hs1, hso1⟩
  have hfb : Fb w.heap.size (S2 cal nl sl ob) w w1 := Fb.of_fw (hfw.wide (fun g hg => by rcases hg with hg | hg | hg; exact Or.inl hg; exact Or.inr (Or.inl hg); exact Or.inr (Or.inr (Or.inl hg)))) (Nat.le_refl _)
  have hobS : ¬ (ob = cal ∨ ob = nl ∨ ob = sl) := by omega
  have hoc1 : w1.cell? ⟨ob, 0, none⟩ = some (.slice none 0 0) := by rw [hfw.cell (by exact l9) hobS]; exact H.out.2.2.2.2.2.2.1
  have hof1 : w1.frozen? ⟨ob, 0, none⟩ = false := by rw [hfw.frozen (by exact l9) hobS]; exact H.out.2.2.2.2.2.2.2
  cases bf with
  | true =>
    have HX := hide (And.intro hfb (And.intro hc1 (And.intro hoc1 (And.intro hn1 hno1))))
    obtain rfl := hrv rfl
    clear hfb hc1 hoc1 hn1 hno1 hfw hrv
    go_wp2
    go_ret2
    exact Or.inl ⟨rfl, rfl, HX.out.1, HX.out.2.1, HX.out.2.2.1, g2, cap2, HX.out.2.2.2⟩
  | false =>
    obtain ⟨h, hS, hstr, hc, hn, hs, hoc, hof⟩ := H.out
    have cl1 : ∀ g, g < w.heap.size → ¬ S2 cal nl sl ob g → w1.cell? ⟨g, 0, none⟩ = w.cell? ⟨g, 0, none⟩ := fun g hg hs => hfb.cell (by exact hg) hs
    have hffl : ff < w.heap.size := World.block_lt_of_cell? _ _ h.ffc
    have he1l : e1 < w.heap.size := World.block_lt_of_cell? _ _ h.e1c
    have hcs1 : Cs w1 cal nl sl ow tx ff e1 ch fs e2 ob s false bs x1 x2 (.slice ca cl cc) := ⟨by rw [hfz _ l1]; exact h.calf, by rw [hfz _ l2]; exact h.nlf, by rw [hfz _ l3]; exact h.slf, by rw [cl1 _ l4 (hS _ (by simp))]; exact h.owc, by rw [cl1 _ l5 (hS _ (by simp))]; exact h.txc, by rw [cl1 _ hffl (hS _ (by simp))]; exact h.ffc, by rw [cl1 _ he1l (hS _ (by simp))]; exact h.e1c, by rw [cl1 _ l6 (hS _ (by simp))]; exact h.chc, by rw [cl1 _ l7 (hS _ (by simp))]; exact h.fsc, by rw [cl1 _ l8 (hS _ (by simp))]; exact h.e2c⟩
    have HSC := hide (second_call w.heap.size cal nl sl ow tx ff e1 ch fs e2 ob x1 x2 g2 cap2 g4 cap4 cl cc ca s false bs str w1 hcs1 ⟨hd1.1, hd1.2.1, hd1.2.2.1⟩ (fun g hg => hS g (by rcases hg with hg | hg | hg | hg | hg <;> simp [hg])) hob ⟨l1, l2, l3, l4, l5, l6, l7, l8, l9, hfb.size⟩ hcl hss (fun i hi => by
      obtain ⟨b, o, q1, q2, q3, q4⟩ := hstr i hi
      exact ⟨b, o, q1, q2, q3, by rw [hfb.cell (by exact q2) q3]; exact q4⟩) hc1 hn1 hno1 hs1 hso1 hoc1 hof1)
    have HFB := hide hfb
    clear h hS hstr hc hn hs hoc hof H hfw hfz hc1 hn1 hno1 hs1 hso1 hoc1 hof1 hcs1 cl1 hfb hrv
    go_wp2_with fail
    refine HSC.out.mono ?_
    clear HSC
    rintro e w2 hsp
    have HSP := hide (hsp.of HFB.out)
    obtain ⟨lv, ov, g1, c1, g3, c3, rfl, _⟩ := hsp
    generalize (if bs = true then Value.iface 45 (Value.pointer (some ⟨x2, 0, none⟩)) else Value.nilIface) = ev at HSP ⊢
    go_wp2
    go_ret2
    exact Or.inr ⟨rfl, HSP.out⟩
end Go.Proofs.Ybulkcgfw
