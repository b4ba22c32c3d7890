import Derived.Test.YbulkcgfwH3
namespace Go.Proofs.Ybulkcgfw
open Go.RowKit
set_option linter.unusedVariables false
set_option linter.unusedSimpArgs false
def textVals (s : ByteArray) : List Value := s.data.toList.map fun b => .int .u8 b.toNat
@[go_sem] theorem Yba.meth (a : Addr) (w : World) : (method 167 26 (.pointer (some a)) "Write").run Yba.prog w = .ok (22, .pointer (some a)) w := by kernel_rfl
theorem Yba.und27 : Yba.prog.underlying 27 = some (.slice 5) := Yba.underlying27
theorem bytes_below (w : World) (s : ByteArray) : Below w.heap.size w (Lib.bytesWorld w 5 s) := by
  refine ⟨rfl, rfl, rfl, by rw [Lib.bytesWorld_size]; omega, fun g hg => Lib.bytesWorld_at_old w 5 s g hg⟩
theorem textVals_len (s : ByteArray) : (textVals s).length = s.size := by simp [textVals]
theorem textVals_get (s : ByteArray) (j : Nat) (u : Value) (w : World) (h : (textVals s)[j]? = some u) : (Lib.bytesWorld w 5 s).cell? ((⟨w.heap.size, 0, none⟩ : Addr).add j) = some u := by
  have hj : j < s.size := by have := (List.getElem?_eq_some_iff.1 h).1; rwa [textVals_len] at this
  rw [show (⟨w.heap.size, 0, none⟩ : Addr).add j = ⟨w.heap.size, 0 + j, none⟩ by unfold Addr.add; split <;> simp_all, Nat.zero_add, Lib.bytesWorld_cell w 5 s j hj, ← h]
  unfold textVals
  have hj' : j < s.data.toList.length := hj
  rw [List.getElem?_map, List.getElem?_eq_getElem hj', List.getD_eq_getElem?_getD, List.getElem?_eq_getElem hj']
  rfl
/-- The blocks that the second call may change. -/
def S2 (cal nl sl ob : Nat) (g : Nat) : Prop := g = cal ∨ g = nl ∨ g = sl ∨ g = ob
/-- The losses of the second walk. -/
def losses (str : Nat → ByteArray) : Nat → List Value
  | 0 => []
  | n + 1 => losses str n ++ [.string (str n), .slice none 0 0, .int .i64 ((n : Int) + 1)]
def z40 : Value := .agg #[.string ⟨#[]⟩, .slice none 0 0, .int .i64 0]
theorem Yba.info40 : (Yba.prog.info? 40).map (fun i => (i.zero, i.size, i.bytes)) = some (some z40, 3, 48) := by kernel_rfl
/-- What stands while the losses are gathered. -/
structure Rest (B cal nl sl ob g1 c1 g3 c3 : Nat) (ov : Value) (s : ByteArray) (w wr : World) : Prop where
  fb : Fb B (S2 cal nl sl ob) w wr
  c : wr.cell? ⟨cal, 0, none⟩ = some (.int .i64 2)
  n : wr.cell? ⟨nl, 0, none⟩ = some (.slice (some ⟨g1, 0, none⟩) 2 c1)
  no : wr.ownsRow B 4 1 (.slice (some ⟨g1, 0, none⟩) 2 c1) 2 [.bool true, .bool false]
  sc : wr.cell? ⟨sl, 0, none⟩ = some (.slice (some ⟨g3, 0, none⟩) 2 c3)
  so : wr.ownsRow B 4 1 (.slice (some ⟨g3, 0, none⟩) 2 c3) 2 [.bool false, .bool true]
  o : wr.cell? ⟨ob, 0, none⟩ = some ov
  oo : wr.ownsRow B 5 1 ov s.size (textVals s)
  le : B ≤ wr.heap.size
theorem tag_apart {w : World} {B n size size' g : Nat} {e e' : TypeId} {v : Value} {xs : List Value} {cur : Array Value} {fr : Nat × Nat} (h : w.ownsRow B e size v n xs) (hg : w.heap[g]? = some (.cells cur e' fr)) (he : e ≠ e') : v.ownBlock = none ∨ v.ownBlock ≠ some g := by
  obtain ⟨_, (⟨rfl, _⟩ | ⟨g', cap, cur', rfl, _, h3, _⟩)⟩ := h
  · exact Or.inl rfl
  · refine Or.inr (fun e2 => ?_)
    simp [Value.ownBlock] at e2
    subst e2
    rw [h3] at hg
    injection hg with hg
    injection hg with _ q _
    exact he q
/-- The row of losses grows, or nothing old: the rest stands. -/
theorem Rest.grow {B cal nl sl ob g1 c1 g3 c3 : Nat} {ov : Value} {s : ByteArray} {w wr w' : World} {row : Option Nat} (h : Rest B cal nl sl ob g1 c1 g3 c3 ov s w wr) (hb : cal < B ∧ nl < B ∧ sl < B ∧ ob < B) (hg : wr.grownBy w' row) (hr : ∀ g, row = some g → B ≤ g ∧ ∃ cur fr, wr.heap[g]? = some (.cells cur 40 fr)) : Rest B cal nl sl ob g1 c1 g3 c3 ov s w w' := by
  have hbl : Below B wr w' := ⟨hg.os, hg.tape, hg.output, hg.size, fun g h1 => hg.block g (by have := h.le; omega) (fun e => by have := (hr g e.symm).1; omega)⟩
  have key : ∀ {e : TypeId} {n : Nat} {v : Value} {xs : List Value}, e ≠ 40 → wr.ownsRow B e 1 v n xs → w'.ownsRow B e 1 v n xs := fun he ho => ho.kept hg (by
    cases row with
    | none => rename_i v _; cases v.ownBlock with | none => exact Or.inl rfl | some _ => exact Or.inr (by simp)
    | some g => obtain ⟨_, cur, fr, hq⟩ := hr g rfl; exact tag_apart (size' := 0) ho hq he)
  exact ⟨h.fb.trans (Fb.of_below hbl), by rw [hbl.cell (by exact hb.1)]; exact h.c, by rw [hbl.cell (by exact hb.2.1)]; exact h.n, key (by decide) h.no, by rw [hbl.cell (by exact hb.2.2.1)]; exact h.sc, key (by decide) h.so, by rw [hbl.cell (by exact hb.2.2.2)]; exact h.o, key (by decide) h.oo, Nat.le_trans h.le hbl.size⟩
def SecondPost (B cal nl sl ob x2 cl : Nat) (bs : Bool) (s : ByteArray) (str : Nat → ByteArray) (w : World) (e : Ending) (w' : World) : Prop :=
  ∃ lv ov g1 c1 g3 c3, e = .returned (.tuple #[lv, if bs then .iface 45 (.pointer (some ⟨x2, 0, none⟩)) else .nilIface]) ∧ w'.ownsRow B 40 3 lv cl (losses str cl) ∧ Fb B (S2 cal nl sl ob) w w' ∧ w'.cell? ⟨cal, 0, none⟩ = some (.int .i64 2) ∧ w'.cell? ⟨nl, 0, none⟩ = some (.slice (some ⟨g1, 0, none⟩) 2 c1) ∧ w'.ownsRow B 4 1 (.slice (some ⟨g1, 0, none⟩) 2 c1) 2 [.bool true, .bool false] ∧ w'.cell? ⟨sl, 0, none⟩ = some (.slice (some ⟨g3, 0, none⟩) 2 c3) ∧ w'.ownsRow B 4 1 (.slice (some ⟨g3, 0, none⟩) 2 c3) 2 [.bool false, .bool true] ∧ w'.cell? ⟨ob, 0, none⟩ = some ov ∧ w'.ownsRow B 5 1 ov s.size (textVals s)
set_option maxRecDepth 100000 in
set_option maxHeartbeats 2000000 in
theorem second_call (B cal nl sl ow tx ff e1 ch fs e2 ob x1 x2 g1 c1 g3 c3 cl cc : Nat) (ca : Option Addr) (s : ByteArray) (bf bs : Bool) (str : Nat → ByteArray) (w : World) (h : Cs w cal nl sl ow tx ff e1 ch fs e2 ob s bf bs x1 x2 (.slice ca cl cc))
    (hd : cal ≠ nl ∧ cal ≠ sl ∧ nl ≠ sl) (hS : ∀ g, g = ow ∨ g = tx ∨ g = ch ∨ g = fs ∨ g = e2 → ¬ S2 cal nl sl ob g) (hob : ob ≠ cal ∧ ob ≠ nl ∧ ob ≠ sl)
    (hB : cal < B ∧ nl < B ∧ sl < B ∧ ow < B ∧ tx < B ∧ ch < B ∧ fs < B ∧ e2 < B ∧ ob < B ∧ B ≤ w.heap.size)
    (hcl : cl ≤ 1024) (hss : s.size ≤ 65536) (hstr : ∀ i, i < cl → ∃ b o, ca = some ⟨b, o, none⟩ ∧ b < B ∧ ¬ S2 cal nl sl ob b ∧ w.cell? ⟨b, o + i, none⟩ = some (.string (str i)))
    (hc : w.cell? ⟨cal, 0, none⟩ = some (.int .i64 1)) (hn : w.cell? ⟨nl, 0, none⟩ = some (.slice (some ⟨g1, 0, none⟩) 1 c1)) (hno : w.ownsRow B 4 1 (.slice (some ⟨g1, 0, none⟩) 1 c1) 1 [.bool true]) (hs : w.cell? ⟨sl, 0, none⟩ = some (.slice (some ⟨g3, 0, none⟩) 1 c3)) (hso : w.ownsRow B 4 1 (.slice (some ⟨g3, 0, none⟩) 1 c3) 1 [.bool false]) (hoc : w.cell? ⟨ob, 0, none⟩ = some (.slice none 0 0)) (hof : w.frozen? ⟨ob, 0, none⟩ = false) :
    Calls Yba.prog 5 #[.iface 26 (.pointer (some ⟨ob, 0, none⟩)), .pointer (some ⟨cal, 0, none⟩), .pointer (some ⟨nl, 0, none⟩), .pointer (some ⟨sl, 0, none⟩), .pointer (some ⟨ow, 0, none⟩), .pointer (some ⟨tx, 0, none⟩), .pointer (some ⟨ff, 0, none⟩), .pointer (some ⟨e1, 0, none⟩), .pointer (some ⟨ch, 0, none⟩), .pointer (some ⟨fs, 0, none⟩), .pointer (some ⟨e2, 0, none⟩)] w (SecondPost B cal nl sl ob x2 cl bs s str w) := by
  obtain ⟨b1, b2, b3, b4, b5, b6, b7, b8, b9, b10⟩ := hB
  obtain ⟨d1, d2, d3⟩ := hd
  obtain ⟨o1, o2, o3⟩ := hob
  have hg13 : g1 ≠ g3 := own_apart hno hso (Or.inr ⟨_, _, rfl, rfl, by simp⟩)
  obtain ⟨W1, hW1⟩ : ∃ W1, W1 = w.setCell ⟨cal, 0, none⟩ (.int .i64 2) := ⟨_, rfl⟩
  have hs1 : W1.heap.size = w.heap.size := by rw [hW1]; simp
  have hno1 : W1.ownsRow B 4 1 (.slice (some ⟨g1, 0, none⟩) 1 c1) 1 [.bool true] := by rw [hW1]; exact ownsRow_setCell_below hno (by exact b1) _
  have hso1 : W1.ownsRow B 4 1 (.slice (some ⟨g3, 0, none⟩) 1 c3) 1 [.bool false] := by rw [hW1]; exact ownsRow_setCell_below hso (by exact b1) _
  obtain ⟨v2, w2, hr2, ho2, hg2⟩ := app_run B _ 1 [.bool true] false W1.drew hno1.drew (by omega) (by show B ≤ W1.heap.size; omega)
  obtain ⟨g2, cap2, rfl, hg2b⟩ := own_val ho2 (by omega)
  have hb12 : Below B W1 (W1.drew.alloc (.cells #[.bool false] 4)) := ((Below.refl _ _).drew).alloc (by show B ≤ W1.heap.size; omega) _
  have hb2 : Below B W1 w2 := hb12.trans ⟨hg2.os, hg2.tape, hg2.output, hg2.size, fun g hg => hg2.block g (by have := hb12.size; omega) (fun e => by have := (hno1.lt g1 rfl).1; simp [Value.ownBlock] at e; omega)⟩
  have hso2 : w2.ownsRow B 4 1 (.slice (some ⟨g3, 0, none⟩) 1 c3) 1 [.bool false] := own_keep (hso1.drew.alloc _) hg2 (fun e => hg13 e.symm)
  obtain ⟨W3, hW3⟩ : ∃ W3, W3 = w2.setCell ⟨nl, 0, none⟩ (.slice (some ⟨g2, 0, none⟩) 2 cap2) := ⟨_, rfl⟩
  have hno3 : W3.ownsRow B 4 1 (.slice (some ⟨g2, 0, none⟩) 2 cap2) 2 [.bool true, .bool false] := by rw [hW3]; exact ownsRow_setCell_below ho2 (by exact b2) _
  have hso3 : W3.ownsRow B 4 1 (.slice (some ⟨g3, 0, none⟩) 1 c3) 1 [.bool false] := by rw [hW3]; exact ownsRow_setCell_below hso2 (by exact b2) _
  have hg23 : g2 ≠ g3 := own_apart hno3 hso3 (Or.inr ⟨_, _, rfl, rfl, by simp⟩)
  have hs3 : B ≤ W3.heap.size := by rw [hW3]; have := hb2.size; simp; omega
  obtain ⟨v4, w4, hr4, ho4, hg4⟩ := app_run B _ 1 [.bool false] true W3.drew hso3.drew (by omega) hs3
  obtain ⟨g4, cap4, rfl, hg4b⟩ := own_val ho4 (by omega)
  have hb34 : Below B W3 (W3.drew.alloc (.cells #[.bool true] 4)) := ((Below.refl _ _).drew).alloc hs3 _
  have hb4 : Below B W3 w4 := hb34.trans ⟨hg4.os, hg4.tape, hg4.output, hg4.size, fun g hg => hg4.block g (by have := hb34.size; omega) (fun e => by have := (hso3.lt g3 rfl).1; simp [Value.ownBlock] at e; omega)⟩
  have hno4 : w4.ownsRow B 4 1 (.slice (some ⟨g2, 0, none⟩) 2 cap2) 2 [.bool true, .bool false] := own_keep (hno3.drew.alloc _) hg4 hg23
  obtain ⟨W5, hW5⟩ : ∃ W5, W5 = w4.setCell ⟨sl, 0, none⟩ (.slice (some ⟨g4, 0, none⟩) 2 cap4) := ⟨_, rfl⟩
  have hno5 : W5.ownsRow B 4 1 (.slice (some ⟨g2, 0, none⟩) 2 cap2) 2 [.bool true, .bool false] := by rw [hW5]; exact ownsRow_setCell_below hno4 (by exact b3) _
  have hso5 : W5.ownsRow B 4 1 (.slice (some ⟨g4, 0, none⟩) 2 cap4) 2 [.bool false, .bool true] := by rw [hW5]; exact ownsRow_setCell_below ho4 (by exact b3) _
  have hfb5 : Fb B (S2 cal nl sl ob) w W5 := by
    have f1 : Fb B (S2 cal nl sl ob) w W1 := by rw [hW1]; exact Fb.set ⟨cal, 0, none⟩ (Or.inl rfl) _
    have f3 : Fb B (S2 cal nl sl ob) w2 W3 := by rw [hW3]; exact Fb.set ⟨nl, 0, none⟩ (Or.inr (Or.inl rfl)) _
    have f5 : Fb B (S2 cal nl sl ob) w4 W5 := by rw [hW5]; exact Fb.set ⟨sl, 0, none⟩ (Or.inr (Or.inr (Or.inl rfl))) _
    exact (f1.trans (Fb.of_below hb2)).trans ((f3.trans (Fb.of_below hb4)).trans f5)
  have k1 : W1.cell? ⟨nl, 0, none⟩ = some (.slice (some ⟨g1, 0, none⟩) 1 c1) := by rw [hW1, World.cell?_setCell_other _ _ _ _ (by intro e; injection e with e1 _ _; exact d1 e1)]; exact hn
  have k2 : w2.cell? ⟨nl, 0, none⟩ = some (.slice (some ⟨g1, 0, none⟩) 1 c1) := by rw [hb2.cell (by exact b2)]; exact k1
  have k1f : w2.frozen? ⟨nl, 0, none⟩ = false := by rw [hb2.frozen (by exact b2), hW1, World.frozen?_setCell]; exact h.nlf
  have hnl1 : nl < W1.heap.size := by omega
  have k3 : W3.cell? ⟨sl, 0, none⟩ = some (.slice (some ⟨g3, 0, none⟩) 1 c3) := by rw [hW3, World.cell?_setCell_other _ _ _ _ (by intro e; injection e with e1 _ _; exact d3 e1), hb2.cell (by exact b3), hW1, World.cell?_setCell_other _ _ _ _ (by intro e; injection e with e1 _ _; exact d2 e1)]; exact hs
  have hf3 : Fb B (S2 cal nl sl ob) w W3 := by
    have f1 : Fb B (S2 cal nl sl ob) w W1 := by rw [hW1]; exact Fb.set ⟨cal, 0, none⟩ (Or.inl rfl) _
    have f3 : Fb B (S2 cal nl sl ob) w2 W3 := by rw [hW3]; exact Fb.set ⟨nl, 0, none⟩ (Or.inr (Or.inl rfl)) _
    exact (f1.trans (Fb.of_below hb2)).trans f3
  have k3o : W3.cell? ⟨ow, 0, none⟩ = some (.iface 26 (.pointer (some ⟨ob, 0, none⟩))) := by rw [hf3.cell (by exact b4) (hS _ (Or.inl rfl))]; exact h.owc
  have k4 : w4.cell? ⟨sl, 0, none⟩ = some (.slice (some ⟨g3, 0, none⟩) 1 c3) := by rw [hb4.cell (by exact b3)]; exact k3
  have k4f : w4.frozen? ⟨sl, 0, none⟩ = false := by rw [hb4.frozen (by exact b3), hW3, World.frozen?_setCell, hb2.frozen (by exact b3), hW1, World.frozen?_setCell]; exact h.slf
  have hsl3 : sl < W3.heap.size := by omega
  have hol3 : ow < W3.heap.size := by omega
  have c5 : W5.cell? ⟨cal, 0, none⟩ = some (.int .i64 2) := by rw [hW5, World.cell?_setCell_other _ _ _ _ (by intro e; injection e with e1 _ _; exact d2 e1.symm), hb4.cell (by exact b1), hW3, World.cell?_setCell_other _ _ _ _ (by intro e; injection e with e1 _ _; exact d1 e1.symm), hb2.cell (by exact b1), hW1]; exact World.cell?_setCell_same _ _ _ hc
  have n5 : W5.cell? ⟨nl, 0, none⟩ = some (.slice (some ⟨g2, 0, none⟩) 2 cap2) := by rw [hW5, World.cell?_setCell_other _ _ _ _ (by intro e; injection e with e1 _ _; exact d3 e1.symm), hb4.cell (by exact b2), hW3]; exact World.cell?_setCell_same _ _ _ k2
  have s5 : W5.cell? ⟨sl, 0, none⟩ = some (.slice (some ⟨g4, 0, none⟩) 2 cap4) := by rw [hW5]; exact World.cell?_setCell_same _ _ _ k4
  have hl5 : B ≤ W5.heap.size := by rw [hW5]; have := hb4.size; simp; omega
  have o5 : W5.cell? ⟨ob, 0, none⟩ = some (.slice none 0 0) := by rw [hW5, World.cell?_setCell_other _ _ _ _ (by intro e; injection e with e1 _ _; exact o3 e1.symm), hb4.cell (by exact b9), hW3, World.cell?_setCell_other _ _ _ _ (by intro e; injection e with e1 _ _; exact o2 e1.symm), hb2.cell (by exact b9), hW1, World.cell?_setCell_other _ _ _ _ (by intro e; injection e with e1 _ _; exact o1 e1.symm)]; exact hoc
  have of5 : W5.frozen? ⟨ob, 0, none⟩ = false := by rw [hW5, World.frozen?_setCell, hb4.frozen (by exact b9), hW3, World.frozen?_setCell, hb2.frozen (by exact b9), hW1, World.frozen?_setCell]; exact hof
  have t5 : W5.cell? ⟨tx, 0, none⟩ = some (.string s) := by rw [hfb5.cell (by exact b5) (hS _ (Or.inr (Or.inl rfl)))]; exact h.txc
  have q31n := eq31n ob
  have q31y := eq31y ob
  have hcf := h.calf
  have HW1 := hide hW1
  have HW3 := hide hW3
  have HW5 := hide hW5
  have HR2 : Hid ((Builtin.append_ #[32, 32] 32 #[.slice (some ⟨g1, 0, none⟩) 1 c1, .slice (some ⟨W1.heap.size, 0, none⟩) 1 1]).run Yba.prog (W1.alloc (.cells #[.bool false] 4)).drew = .ok (.slice (some ⟨g2, 0, none⟩) 2 cap2) w2) := ⟨hr2⟩
  have HR4 : Hid ((Builtin.append_ #[32, 32] 32 #[.slice (some ⟨g3, 0, none⟩) 1 c3, .slice (some ⟨W3.heap.size, 0, none⟩) 1 1]).run Yba.prog (W3.alloc (.cells #[.bool true] 4)).drew = .ok (.slice (some ⟨g4, 0, none⟩) 2 cap4) w4) := ⟨hr4⟩
  have H1 := hide (And.intro k1 (And.intro k1f k2))
  have H3 := hide (And.intro k3 (And.intro k3o (And.intro k4 k4f)))
  have H5 := hide (And.intro c5 (And.intro n5 (And.intro s5 (And.intro o5 (And.intro of5 (And.intro t5 (And.intro hno5 (And.intro hso5 (And.intro hfb5 hl5)))))))))
  have HCS := hide (And.intro h (And.intro hS hstr))
  clear hW1 hW3 hW5 hr2 hr4 k1 k1f k2 k3 k3o k4 k4f c5 n5 s5 o5 of5 t5 hno5 hso5 hfb5 hl5 h hS hstr hno hso hno1 hso1 ho2 hg2 hb12 hb2 hso2 hno3 hso3 hs3 ho4 hg4 hb34 hb4 hno4 hf3 hn hs hoc hof hs1
  go_enter Yba.func5, Yba.ntmps5
  go_upto_region 2 with fail
  rw [← HW1.out]
  obtain ⟨k1, k1f, k2⟩ := H1.out
  have HRUN := HR2
  clear H1 HW1 HR2 hc hcf
  go_cut [] (fun wc => wc = W3)
  case first =>
    go_wp2_with fail
    refine wp_region_any (by kernel_rfl) ?_
    change wpAny _ _ _ _ _ _ _ (World.drew _)
    refine wpAny_take (i := 1) (v := ?v1) rfl (by kernel_rfl) (by kernel_rfl) (by kernel_rfl) (fun _ _ _ h => h) (Or.inl ⟨by rfl, ?hy1⟩) ?_
    case hy1 => intro w; go_simp; first | done | (with_reducible rfl)
    refine wpAny_take (i := 2) (v := ?v2) rfl (by kernel_rfl) (by kernel_rfl) (by kernel_rfl) (fun _ _ _ h => h) (Or.inl ⟨by rfl, ?hy2⟩) ?_
    case hy2 => intro w; go_simp; first | done | (with_reducible rfl)
    refine wpAny_ready (rs := [0, 3]) (by kernel_rfl) (by simp) ?_
    refine AllReady.cons rfl (fun K1 hK1 => ?_) (AllReady.cons rfl (fun K1 hK1 => ?_) AllReady.nil)
    · rw [if_pos (by rfl)]
      go_simp
      refine hK1 _ _ ?_
      refine wpAny_ready (rs := [3]) (by kernel_rfl) (by simp) ?_
      refine AllReady.cons rfl (fun K2 hK2 => ?_) AllReady.nil
      rw [if_pos (by rfl)]
      go_simp
      refine hK2 _ _ ?_
      refine wpAny_ready (rs := [4]) (by kernel_rfl) (by simp) ?_
      refine AllReady.cons rfl (fun K5 hK5 => ?_) AllReady.nil
      rw [if_pos (by rfl)]
      refine wp_append_run (.tmp 20) (.tmp 23) 32 32 rfl rfl (.slice (some ⟨g1, 0, none⟩) 1 c1) (.slice (some ⟨W1.heap.size, 0, none⟩) 1 1) _ ?hx ?hy HRUN.out ?_
      case hx => go_simp
      case hy => go_simp
      refine hK5 _ _ ?_
      refine wpAny_ready (rs := [5]) (by kernel_rfl) (by simp) ?_
      refine AllReady.cons rfl (fun K6 hK6 => ?_) AllReady.nil
      rw [if_pos (by rfl)]
      go_simp
      refine hK6 _ _ ?_
      refine wpAny_done (by kernel_rfl) ?_ _
      go_wp2
      go_meet
      exact HW3.out.symm
    · rw [if_pos (by rfl)]
      go_simp
      refine hK1 _ _ ?_
      refine wpAny_ready (rs := [0]) (by kernel_rfl) (by simp) ?_
      refine AllReady.cons rfl (fun K2 hK2 => ?_) AllReady.nil
      rw [if_pos (by rfl)]
      go_simp
      refine hK2 _ _ ?_
      refine wpAny_ready (rs := [4]) (by kernel_rfl) (by simp) ?_
      refine AllReady.cons rfl (fun K5 hK5 => ?_) AllReady.nil
      rw [if_pos (by rfl)]
      refine wp_append_run (.tmp 20) (.tmp 23) 32 32 rfl rfl (.slice (some ⟨g1, 0, none⟩) 1 c1) (.slice (some ⟨W1.heap.size, 0, none⟩) 1 1) _ ?hx ?hy HRUN.out ?_
      case hx => go_simp
      case hy => go_simp
      refine hK5 _ _ ?_
      refine wpAny_ready (rs := [5]) (by kernel_rfl) (by simp) ?_
      refine AllReady.cons rfl (fun K6 hK6 => ?_) AllReady.nil
      rw [if_pos (by rfl)]
      go_simp
      refine hK6 _ _ ?_
      refine wpAny_done (by kernel_rfl) ?_ _
      go_wp2
      go_meet
      exact HW3.out.symm
  case rest =>
    clear HRUN k1 k1f k2 HW3
    rw [hcut]
    clear hcut
    obtain ⟨k3, k3o, k4, k4f⟩ := H3.out
    have HRUN := HR4
    clear H3 HR4
    go_upto_region 3 with fail
    go_cut [] (fun wc => wc = W5)
    case first =>
      go_wp2_with fail
      refine wp_region_any (by kernel_rfl) ?_
      change wpAny _ _ _ _ _ _ _ (World.drew _)
      refine wpAny_take (i := 1) (v := ?v1) rfl (by kernel_rfl) (by kernel_rfl) (by kernel_rfl) (fun _ _ _ h => h) (Or.inl ⟨by rfl, ?hy1⟩) ?_
      case hy1 => intro w; go_simp; first | done | (with_reducible rfl)
      refine wpAny_ready (rs := [0, 2]) (by kernel_rfl) (by simp) ?_
      refine AllReady.cons rfl (fun K1 hK1 => ?_) (AllReady.cons rfl (fun K1 hK1 => ?_) AllReady.nil)
      · rw [if_pos (by rfl)]
        go_simp
        refine hK1 _ _ ?_
        refine wpAny_ready (rs := [2]) (by kernel_rfl) (by simp) ?_
        refine AllReady.cons rfl (fun K2 hK2 => ?_) AllReady.nil
        rw [if_pos (by rfl)]
        go_simp
        refine hK2 _ _ ?_
        refine wpAny_take (i := 3) (v := ?v3) rfl (by kernel_rfl) (by kernel_rfl) (by kernel_rfl) (fun _ _ _ h => h) (Or.inl ⟨by rfl, ?hy3⟩) ?_
        case hy3 => intro w; go_simp; first | done | (with_reducible rfl)
        refine wpAny_ready (rs := [4]) (by kernel_rfl) (by simp) ?_
        refine AllReady.cons rfl (fun K4 hK4 => ?_) AllReady.nil
        rw [if_pos (by rfl)]
        go_simp
        refine hK4 _ _ ?_
        refine wpAny_ready (rs := [5]) (by kernel_rfl) (by simp) ?_
        refine AllReady.cons rfl (fun K5 hK5 => ?_) AllReady.nil
        rw [if_pos (by rfl)]
        refine wp_append_run (.tmp 25) (.tmp 29) 32 32 rfl rfl (.slice (some ⟨g3, 0, none⟩) 1 c3) (.slice (some ⟨W3.heap.size, 0, none⟩) 1 1) _ ?hx ?hy HRUN.out ?_
        case hx => go_simp
        case hy => go_simp
        refine hK5 _ _ ?_
        refine wpAny_ready (rs := [6]) (by kernel_rfl) (by simp) ?_
        refine AllReady.cons rfl (fun K6 hK6 => ?_) AllReady.nil
        rw [if_pos (by rfl)]
        go_simp
        refine hK6 _ _ ?_
        refine wpAny_done (by kernel_rfl) ?_ _
        go_wp2
        go_meet
        exact HW5.out.symm
      · rw [if_pos (by rfl)]
        go_simp
        refine hK1 _ _ ?_
        refine wpAny_take (i := 3) (v := ?v3) rfl (by kernel_rfl) (by kernel_rfl) (by kernel_rfl) (fun _ _ _ h => h) (Or.inl ⟨by rfl, ?hy3⟩) ?_
        case hy3 => intro w; go_simp; first | done | (with_reducible rfl)
        refine wpAny_ready (rs := [0, 4]) (by kernel_rfl) (by simp) ?_
        refine AllReady.cons rfl (fun K3 hK3 => ?_) (AllReady.cons rfl (fun K3 hK3 => ?_) AllReady.nil)
        · rw [if_pos (by rfl)]
          go_simp
          refine hK3 _ _ ?_
          refine wpAny_ready (rs := [4]) (by kernel_rfl) (by simp) ?_
          refine AllReady.cons rfl (fun K4 hK4 => ?_) AllReady.nil
          rw [if_pos (by rfl)]
          go_simp
          refine hK4 _ _ ?_
          refine wpAny_ready (rs := [5]) (by kernel_rfl) (by simp) ?_
          refine AllReady.cons rfl (fun K5 hK5 => ?_) AllReady.nil
          rw [if_pos (by rfl)]
          refine wp_append_run (.tmp 25) (.tmp 29) 32 32 rfl rfl (.slice (some ⟨g3, 0, none⟩) 1 c3) (.slice (some ⟨W3.heap.size, 0, none⟩) 1 1) _ ?hx ?hy HRUN.out ?_
          case hx => go_simp
          case hy => go_simp
          refine hK5 _ _ ?_
          refine wpAny_ready (rs := [6]) (by kernel_rfl) (by simp) ?_
          refine AllReady.cons rfl (fun K6 hK6 => ?_) AllReady.nil
          rw [if_pos (by rfl)]
          go_simp
          refine hK6 _ _ ?_
          refine wpAny_done (by kernel_rfl) ?_ _
          go_wp2
          go_meet
          exact HW5.out.symm
        · rw [if_pos (by rfl)]
          go_simp
          refine hK3 _ _ ?_
          refine wpAny_ready (rs := [0]) (by kernel_rfl) (by simp) ?_
          refine AllReady.cons rfl (fun K4 hK4 => ?_) AllReady.nil
          rw [if_pos (by rfl)]
          go_simp
          refine hK4 _ _ ?_
          refine wpAny_ready (rs := [5]) (by kernel_rfl) (by simp) ?_
          refine AllReady.cons rfl (fun K5 hK5 => ?_) AllReady.nil
          rw [if_pos (by rfl)]
          refine wp_append_run (.tmp 25) (.tmp 29) 32 32 rfl rfl (.slice (some ⟨g3, 0, none⟩) 1 c3) (.slice (some ⟨W3.heap.size, 0, none⟩) 1 1) _ ?hx ?hy HRUN.out ?_
          case hx => go_simp
          case hy => go_simp
          refine hK5 _ _ ?_
          refine wpAny_ready (rs := [6]) (by kernel_rfl) (by simp) ?_
          refine AllReady.cons rfl (fun K6 hK6 => ?_) AllReady.nil
          rw [if_pos (by rfl)]
          go_simp
          refine hK6 _ _ ?_
          refine wpAny_done (by kernel_rfl) ?_ _
          go_wp2
          go_meet
          exact HW5.out.symm
    case rest =>
      clear HRUN k3 k3o k4 k4f HW5
      rw [hcut]
      clear hcut
      obtain ⟨c5, n5, s5, o5, of5, t5, hno5, hso5, hfb5, hl5⟩ := H5.out
      have hconv := Lib.run_convert_string_bytes (P := Yba.prog) W5 9 27 5 s Yba.underlying9 Yba.underlying27 Yba.underlying5
      obtain ⟨V, hV⟩ : ∃ V, V = Lib.bytesWorld W5 5 s := ⟨_, rfl⟩
      have hbV : Below W5.heap.size W5 V := by rw [hV]; exact bytes_below W5 s
      have hwr := write_any ob W5.heap.size s.size (grownCap W5 s.size 0 5) (textVals s) V (textVals_len s) hss (by rw [hbV.cell (by show ob < W5.heap.size; omega)]; exact o5) (by rw [hbV.frozen (by show ob < W5.heap.size; omega)]; exact of5) (fun j u hj => by rw [hV]; exact textVals_get s j u W5 hj) (fun u hu => by obtain ⟨b, _, rfl⟩ := List.mem_map.1 hu; rfl)
      rw [← hV] at hconv
      have HWR := hide hwr
      have H6 := hide (And.intro c5 (And.intro n5 (And.intro s5 (And.intro o5 (And.intro of5 (And.intro hno5 (And.intro hso5 (And.intro hfb5 hl5))))))))
      have HV := hide hbV
      clear hwr hV H5 c5 n5 s5 o5 of5 hno5 hso5 hfb5 hl5 hbV
      go_wp2_with fail
      refine HWR.out.mono ?_
      clear HWR hconv
      rintro e w6 ⟨ov, rfl, hov, hoo, hfw6⟩
      have HRS : Hid (Rest B cal nl sl ob g2 cap2 g4 cap4 ov s w w6) := by
        obtain ⟨c5, n5, s5, o5, of5, hno5, hso5, hfb5, hl5⟩ := H6.out
        have hbV := HV.out
        have hsV := hbV.size
        have f6 : Fb B (S2 cal nl sl ob) V w6 := Fb.of_fw (hfw6.wide (fun g hg => Or.inr (Or.inr (Or.inr hg)))) (by omega)
        have cc : ∀ g, g < B → g ≠ ob → w6.cell? ⟨g, 0, none⟩ = W5.cell? ⟨g, 0, none⟩ := fun g hg hne => by rw [hfw6.cell (by show g < V.heap.size; omega) hne, hbV.cell (by show g < W5.heap.size; omega)]
        have kr : ∀ {n : Nat} {v : Value} {xs : List Value}, W5.ownsRow B 4 1 v n xs → w6.ownsRow B 4 1 v n xs := fun ho => by
          have hV4 := ho.kept (row := none) ⟨hbV.os, hbV.tape, hbV.output, hbV.size, fun k hk _ => hbV.block k hk⟩ (by rename_i v _; cases v.ownBlock with | none => exact Or.inl rfl | some _ => exact Or.inr (by simp))
          exact hV4.kept (row := some ob) ⟨hfw6.os, hfw6.tape, hfw6.output, hfw6.size, fun k hk hne => hfw6.block k hk (fun e => hne (by rw [e]))⟩ (by
            rename_i v _
            cases hvb : v.ownBlock with
            | none => exact Or.inl rfl
            | some q => exact Or.inr (fun e => by injection e with e; have := (hV4.lt q hvb).1; omega))
        exact ⟨(hfb5.trans (Fb.of_below (hbV.mono (by omega)))).trans f6, by rw [cc _ b1 (fun e => o1 e.symm)]; exact c5, by rw [cc _ b2 (fun e => o2 e.symm)]; exact n5, kr hno5, by rw [cc _ b3 (fun e => o3 e.symm)]; exact s5, kr hso5, hov, own_mono hoo (by omega), by have := hfw6.size; omega⟩
      obtain ⟨i0, hi, hz0, hz1, hz2⟩ := info_parts Yba.info40
      have hc6 := HRS.out.c
      have hch6 : w6.cell? ⟨ch, 0, none⟩ = some (.slice ca cl cc) := by rw [HRS.out.fb.cell (by exact b6) (HCS.out.2.1 _ (Or.inr (Or.inr (Or.inl rfl))))]; exact HCS.out.1.chc
      have hwle := HRS.out.le
      have hbt : i0.bytes * cl ≤ 281474976710656 := by rw [hz2]; omega
      have hml : cl ≤ maxLen := by unfold maxLen; omega
      clear hov hoo hfw6 H6 HV
      go_wp2_with (first | (at_make; refine wpList_make_own _ rfl _ _ 33 rfl B 40 i0 z40 3 Yba.underlying33 hi hz0 hz1 _ _ _ cl rfl rfl rfl hbt hml hwle ?_))
      intro w7 hown7 hgrow7
      have HR7 := hide (HRS.out.grow ⟨b1, b2, b3, b9⟩ hgrow7 (fun g hg => by cases hg))
      have HO7 := hide hown7
      clear HRS hown7 hgrow7 hc6 hch6 hwle
      go_wp2_with fail
      go_loopw [16, 17] (fun lv iv wr => ∃ i : Nat, i ≤ cl ∧ iv = .int .i64 i ∧ wr.ownsRow B 40 3 lv i (losses str i) ∧ Rest B cal nl sl ob g2 cap2 g4 cap4 ov s w wr) (fun _ iv _ => (cl - intOf iv).toNat)
      case atStart => exact ⟨0, by omega, rfl, HO7.out, HR7.out⟩
      case round =>
        clear HO7 HR7
        obtain ⟨i, hicl, rfl, ho, hr⟩ := hrel
        have hch : wr.cell? ⟨ch, 0, none⟩ = some (.slice ca cl cc) := by rw [hr.fb.cell (by exact b6) (HCS.out.2.1 _ (Or.inr (Or.inr (Or.inl rfl))))]; exact HCS.out.1.chc
        by_cases hlt : i < cl
        · obtain ⟨cb, co, hca, hcb, hcS, hcell⟩ := HCS.out.2.2 i hlt
          subst hca
          have hst : wr.cell? ⟨cb, co + i, none⟩ = some (.string (str i)) := by rw [hr.fb.cell (by exact hcb) hcS]; exact hcell
          have i1 : (i : Int) < cl := by omega
          have i2 := wrap_in ((i : Int) + 1) (by omega) (by omega)
          have hle := hr.le
          have HRO := hide (And.intro hr ho)
          clear hcell hr ho
          go_wp2_with (first
            | (at_builtin; refine wpList_append_own _ rfl _ _ 33 rfl B 40 i0 z40 3 48 Yba.underlying33 hi hz0 hz1 hz2 rfl (by decide) _ _ _ rfl (HRO.out.2.alloc _) ⟨wr.heap.size, 0, none⟩ 1 1 [.string (str i), .slice none 0 0, .int .i64 ((i : Int) + 1)] rfl rfl ?c1 ?c2 ?c3 ?c4 ?c5 ?_))
          case c1 =>
            intro jj u hjj
            match jj, hjj with
            | 0, hjj => simp at hjj; subst hjj; simp [Addr.add]
            | 1, hjj => simp at hjj; subst hjj; simp [Addr.add]
            | 2, hjj => simp at hjj; subst hjj; simp [Addr.add]
          case c2 => intro u hu; simp at hu; rcases hu with rfl | rfl | rfl <;> rfl
          case c3 => unfold maxLen; omega
          case c4 => omega
          case c5 => simp; omega
          intro v8 w8 hown8 hgrow8 _
          have hra : Rest B cal nl sl ob g2 cap2 g4 cap4 ov s w (wr.alloc (.cells #[.string (str i), .slice none 0 0, .int .i64 ((i : Int) + 1)] 40)) := HRO.out.1.grow ⟨b1, b2, b3, b9⟩ (row := none) (by
            have hb : Below wr.heap.size wr (wr.alloc (.cells #[.string (str i), .slice none 0 0, .int .i64 ((i : Int) + 1)] 40)) := (Below.refl _ _).alloc (Nat.le_refl _) _
            exact ⟨hb.os, hb.tape, hb.output, hb.size, fun k hk _ => hb.block k hk⟩) (fun g hg => by cases hg)
          have HR8 := hide (hra.grow ⟨b1, b2, b3, b9⟩ hgrow8 (fun g hg => by
            have hoa := HRO.out.2.alloc (.cells #[.string (str i), .slice none 0 0, .int .i64 ((i : Int) + 1)] 40)
            obtain ⟨_, (⟨rfl, _⟩ | ⟨g', cap, cur, rfl, hgB, hgc, _⟩)⟩ := hoa
            · simp [Value.ownBlock] at hg
            · simp [Value.ownBlock] at hg
              subst hg
              exact ⟨hgB, cur, _, hgc⟩))
          have HO8 := hide hown8
          clear hown8 hgrow8 hra HRO
          go_wp2
          go_roundw
          case rel => exact ⟨i + 1, by omega, by go_num, HO8.out, HR8.out⟩
          case measure => simp [intOf]; omega
        · obtain rfl : i = cl := by omega
          have i1 : ¬ (i : Int) < i := by omega
          have hfs : wr.cell? ⟨fs, 0, none⟩ = some (.bool bs) := by rw [hr.fb.cell (by exact b7) (HCS.out.2.1 _ (Or.inr (Or.inr (Or.inr (Or.inl rfl)))))]; exact HCS.out.1.fsc
          have he2 : wr.cell? ⟨e2, 0, none⟩ = some (.iface 45 (.pointer (some ⟨x2, 0, none⟩))) := by rw [hr.fb.cell (by exact b8) (HCS.out.2.1 _ (Or.inr (Or.inr (Or.inr (Or.inr rfl)))))]; exact HCS.out.1.e2c
          have HRO := hide (And.intro hr ho)
          clear hr ho
          cases bs with
          | true =>
            go_wp2_with fail
            go_quiet (fail)
            go_wp2
            go_ret2
            obtain ⟨hr, ho⟩ := HRO.out
            exact ⟨_, ov, g2, cap2, g4, cap4, rfl, ho, ⟨hr.fb.os, hr.fb.tape, hr.fb.output, hr.fb.size, hr.fb.block⟩, hr.c, hr.n, hr.no, hr.sc, hr.so, hr.o, hr.oo⟩
          | false =>
            go_wp2
            go_ret2
            obtain ⟨hr, ho⟩ := HRO.out
            exact ⟨_, ov, g2, cap2, g4, cap4, rfl, ho, hr.fb, hr.c, hr.n, hr.no, hr.sc, hr.so, hr.o, hr.oo⟩
end Go.Proofs.Ybulkcgfw
