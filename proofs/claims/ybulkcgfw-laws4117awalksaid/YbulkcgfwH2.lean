import Derived.Test.YbulkcgfwH1
import Derived.Deep.DeepCutAuto
namespace Go.Proofs.Ybulkcgfw
open Go.RowKit
set_option linter.unusedVariables false
set_option linter.unusedSimpArgs false
/-- One Bool more at the end of an own row. -/
theorem app_run (B : Nat) (v : Value) (n : Nat) (xs : List Value) (b : Bool) (W : World) (hown : W.ownsRow B 4 1 v n xs) (hn : n ≤ 10) (hB : B ≤ W.heap.size) :
    ∃ v' w', (Builtin.append_ #[32, 32] 32 #[v, .slice (some ⟨W.heap.size, 0, none⟩) 1 1]).run Yba.prog (W.alloc (.cells #[.bool b] 4)) = .ok v' w' ∧ w'.ownsRow B 4 1 v' (n + 1) (xs ++ [.bool b]) ∧ (W.alloc (.cells #[.bool b] 4)).grownBy w' v.ownBlock := by
  obtain ⟨i0, hi, hz0, hz1, hz2⟩ := info_parts Yba.info4
  obtain ⟨v', w', h1, h2, h3, _⟩ := run_append_own (P := Yba.prog) (W.alloc (.cells #[.bool b] 4)) B 32 32 4 i0 (.bool false) 1 1 Yba.underlying32 hi hz0 hz1 hz2 rfl (by decide) v n xs (hown.alloc _) ⟨W.heap.size, 0, none⟩ 1 1 [.bool b] rfl (fun j u hj => by
    match j, hj with
    | 0, hj => simp at hj; subst hj; simp [Addr.add]) (fun u hu => by simp at hu; subst hu; rfl) (by unfold maxLen; omega) (by omega) (by simp; omega)
  exact ⟨v', w', h1, h2, h3⟩
theorem wp_append_run {o : Oper} {a : Act} {w w' : World} {K : Act → World → Prop} {Q : Exit → Act → World → Prop} (x y : Operand) (t ty : TypeId) (ho : o.op = .call { callee := .builtin .append, args := #[x, y], argTypes := #[t, t] }) (hty : o.type = ty) (u v r : Value) (hx : a.eval x = u) (hy : a.eval y = v) (hrun : (Builtin.append_ #[t, t] ty #[u, v]).run Yba.prog w = .ok r w')
    (h : K (a.put o.dst r) w') : o.wp Yba.prog a w K Q := by
  unfold Oper.wp
  simp [execOp, ho, resolve, invoke, builtin, hx, hy, hty, hrun, Result.andThen]
  exact h
theorem eq31 (v : Value) (w : World) : (binOp .eql 31 .nilIface (.iface 26 v)).run Yba.prog w = .ok (.bool false) w := by kernel_rfl
theorem own_val {w : World} {B n : Nat} {e : TypeId} {v : Value} {xs : List Value} (h : w.ownsRow B e 1 v n xs) (hn : 0 < n) : ∃ g cap, v = .slice (some ⟨g, 0, none⟩) n cap ∧ B ≤ g := by
  obtain ⟨_, (⟨_, h⟩ | ⟨g, cap, cur, rfl, hb, _⟩)⟩ := h
  · omega
  · exact ⟨g, cap, rfl, hb⟩
theorem own_mono {w : World} {B B' n size : Nat} {e : TypeId} {v : Value} {xs : List Value} (h : w.ownsRow B e size v n xs) (hb : B' ≤ B) : w.ownsRow B' e size v n xs := by
  obtain ⟨h1, (h2 | ⟨g, cap, cur, h2, h3, h4⟩)⟩ := h
  · exact ⟨h1, Or.inl h2⟩
  · exact ⟨h1, Or.inr ⟨g, cap, cur, h2, Nat.le_trans hb h3, h4⟩⟩
/-- What the closure's captured variables hold. -/
structure Cs (w : World) (cal nl sl ow tx ff e1 ch fs e2 ob : Nat) (s : ByteArray) (bf bs : Bool) (x1 x2 : Nat) (cv : Value) : Prop where
  calf : w.frozen? ⟨cal, 0, none⟩ = false
  nlf : w.frozen? ⟨nl, 0, none⟩ = false
  slf : w.frozen? ⟨sl, 0, none⟩ = false
  owc : w.cell? ⟨ow, 0, none⟩ = some (.iface 26 (.pointer (some ⟨ob, 0, none⟩)))
  txc : w.cell? ⟨tx, 0, none⟩ = some (.string s)
  ffc : w.cell? ⟨ff, 0, none⟩ = some (.bool bf)
  e1c : w.cell? ⟨e1, 0, none⟩ = some (.iface 45 (.pointer (some ⟨x1, 0, none⟩)))
  chc : w.cell? ⟨ch, 0, none⟩ = some cv
  fsc : w.cell? ⟨fs, 0, none⟩ = some (.bool bs)
  e2c : w.cell? ⟨e2, 0, none⟩ = some (.iface 45 (.pointer (some ⟨x2, 0, none⟩)))
def FirstPost (cal nl sl x1 : Nat) (bf : Bool) (w : World) (e : Ending) (w' : World) : Prop :=
  (∃ rv, e = .returned (.tuple #[rv, if bf then .iface 45 (.pointer (some ⟨x1, 0, none⟩)) else .nilIface]) ∧ (bf = true → rv = .slice none 0 0)) ∧ Fw (fun g => g = cal ∨ g = nl ∨ g = sl) w w' ∧ (∀ g, g < w.heap.size → w'.frozen? ⟨g, 0, none⟩ = w.frozen? ⟨g, 0, none⟩) ∧ w'.cell? ⟨cal, 0, none⟩ = some (.int .i64 1) ∧ ∃ g2 cap2 g4 cap4, g2 ≠ g4 ∧ w'.cell? ⟨nl, 0, none⟩ = some (.slice (some ⟨g2, 0, none⟩) 1 cap2) ∧ w'.ownsRow w.heap.size 4 1 (.slice (some ⟨g2, 0, none⟩) 1 cap2) 1 [.bool true] ∧ w'.cell? ⟨sl, 0, none⟩ = some (.slice (some ⟨g4, 0, none⟩) 1 cap4) ∧ w'.ownsRow w.heap.size 4 1 (.slice (some ⟨g4, 0, none⟩) 1 cap4) 1 [.bool false]
set_option maxRecDepth 100000 in
set_option maxHeartbeats 1000000 in
theorem first_call (cal nl sl ow tx ff e1 ch fs e2 ob x1 x2 : Nat) (s : ByteArray) (bf bs : Bool) (cv : Value) (w : World) (h : Cs w cal nl sl ow tx ff e1 ch fs e2 ob s bf bs x1 x2 cv)
    (hd : cal ≠ nl ∧ cal ≠ sl ∧ nl ≠ sl ∧ ow ≠ cal ∧ ow ≠ nl ∧ ow ≠ sl ∧ ff ≠ cal ∧ ff ≠ nl ∧ ff ≠ sl ∧ e1 ≠ cal ∧ e1 ≠ nl ∧ e1 ≠ sl)
    (hc : w.cell? ⟨cal, 0, none⟩ = some (.int .i64 0)) (hn : w.cell? ⟨nl, 0, none⟩ = some (.slice none 0 0)) (hs : w.cell? ⟨sl, 0, none⟩ = some (.slice none 0 0)) :
    Calls Yba.prog 5 #[.nilIface, .pointer (some ⟨cal, 0, none⟩), .pointer (some ⟨nl, 0, none⟩), .pointer (some ⟨sl, 0, none⟩), .pointer (some ⟨ow, 0, none⟩), .pointer (some ⟨tx, 0, none⟩), .pointer (some ⟨ff, 0, none⟩), .pointer (some ⟨e1, 0, none⟩), .pointer (some ⟨ch, 0, none⟩), .pointer (some ⟨fs, 0, none⟩), .pointer (some ⟨e2, 0, none⟩)] w (FirstPost cal nl sl x1 bf w) := by
  obtain ⟨W1, hW1⟩ : ∃ W1, W1 = w.setCell ⟨cal, 0, none⟩ (.int .i64 1) := ⟨_, rfl⟩
  have hcl : cal < w.heap.size := World.block_lt_of_cell? _ _ hc
  have hnl : nl < w.heap.size := World.block_lt_of_cell? _ _ hn
  have hsl : sl < w.heap.size := World.block_lt_of_cell? _ _ hs
  have hw1 : W1.heap.size = w.heap.size := by rw [hW1]; simp
  obtain ⟨v2, w2, hr2, ho2, hg2⟩ := app_run w.heap.size (.slice none 0 0) 0 [] true W1.drew (World.ownsRow_nil _ _ _ _) (by omega) (by show w.heap.size ≤ W1.heap.size; omega)
  rw [Nat.zero_add, List.nil_append] at ho2
  rw [show W1.drew.heap.size = W1.heap.size from rfl] at hr2
  have hfw1 : Fw (fun g => g = cal ∨ g = nl ∨ g = sl) w W1 := by rw [hW1]; exact Fw.set (S := fun g => g = cal ∨ g = nl ∨ g = sl) ⟨cal, 0, none⟩ (Or.inl rfl) _
  have hb12 : Below w.heap.size W1 (W1.drew.alloc (.cells #[.bool true] 4)) := ((Below.refl _ _).drew).alloc (by rw [show W1.drew.heap.size = W1.heap.size from rfl]; omega) _
  have hb2 : Below w.heap.size W1 w2 := hb12.trans ⟨hg2.os, hg2.tape, hg2.output, hg2.size, fun g hg => hg2.block g (by have := hb12.size; omega) (by simp [Value.ownBlock])⟩
  obtain ⟨g2, cap2, rfl, hg2b⟩ := own_val ho2 (by omega)
  obtain ⟨W3, hW3⟩ : ∃ W3, W3 = w2.setCell ⟨nl, 0, none⟩ (.slice (some ⟨g2, 0, none⟩) 1 cap2) := ⟨_, rfl⟩
  have ho3 : W3.ownsRow w.heap.size 4 1 (.slice (some ⟨g2, 0, none⟩) 1 cap2) 1 [.bool true] := by rw [hW3]; exact ownsRow_setCell_below ho2 (by exact hnl) _
  have hs3 : w.heap.size ≤ W3.heap.size := by rw [hW3]; have := hb2.size; simp; omega
  obtain ⟨v4, w4, hr4, ho4, hg4⟩ := app_run W3.heap.size (.slice none 0 0) 0 [] false W3.drew (World.ownsRow_nil _ _ _ _) (by omega) (Nat.le_refl _)
  rw [Nat.zero_add, List.nil_append] at ho4
  rw [show W3.drew.heap.size = W3.heap.size from rfl] at hr4
  have hb34 : Below W3.heap.size W3 (W3.drew.alloc (.cells #[.bool false] 4)) := ((Below.refl _ _).drew).alloc (Nat.le_refl _) _
  have hb4 : Below W3.heap.size W3 w4 := hb34.trans ⟨hg4.os, hg4.tape, hg4.output, hg4.size, fun g hg => hg4.block g (by have := hb34.size; omega) (by simp [Value.ownBlock])⟩
  obtain ⟨g4, cap4, rfl, hg4b⟩ := own_val ho4 (by omega)
  replace ho4 := own_mono ho4 hs3
  have hg24 : g2 ≠ g4 := by have := (ho3.lt g2 rfl).2; omega
  obtain ⟨d1, d2, d3, d4, d5, d6, d7, d8, d9, d10, d11, d12⟩ := hd
  have fc : ∀ g j, g < w.heap.size → g ≠ cal → W1.cell? ⟨g, j, none⟩ = w.cell? ⟨g, j, none⟩ := fun g j hg hne => by rw [hW1, World.cell?_setCell_other _ _ _ _ (by intro e; injection e with e1 _ _; exact hne e1.symm)]
  have f3 : ∀ g j, g < w.heap.size → g ≠ cal → g ≠ nl → W3.cell? ⟨g, j, none⟩ = w.cell? ⟨g, j, none⟩ := fun g j hg hne hne2 => by rw [hW3, World.cell?_setCell_other _ _ _ _ (by intro e; injection e with e1 _ _; exact hne2 e1.symm), hb2.cell (by exact hg)]; exact fc g j hg hne
  have f4 : ∀ g j, g < w.heap.size → g ≠ cal → g ≠ nl → w4.cell? ⟨g, j, none⟩ = w.cell? ⟨g, j, none⟩ := fun g j hg hne hne2 => by rw [hb4.cell (by show g < W3.heap.size; omega)]; exact f3 g j hg hne hne2
  have hcal1 : W1.cell? ⟨cal, 0, none⟩ = some (.int .i64 1) := by rw [hW1]; exact World.cell?_setCell_same _ _ _ hc
  have hcal4 : w4.cell? ⟨cal, 0, none⟩ = some (.int .i64 1) := by rw [hb4.cell (by show cal < W3.heap.size; omega), hW3, World.cell?_setCell_other _ _ _ _ (by intro e; injection e with e1 _ _; exact d1 e1.symm), hb2.cell (by exact hcl)]; exact hcal1
  have k1 : W1.cell? ⟨nl, 0, none⟩ = some (.slice none 0 0) := by rw [fc nl 0 hnl (fun e => d1 e.symm)]; exact hn
  have k1f : w2.frozen? ⟨nl, 0, none⟩ = false := by rw [hb2.frozen (by exact hnl), hW1, World.frozen?_setCell]; exact h.nlf
  have k2 : w2.cell? ⟨nl, 0, none⟩ = some (.slice none 0 0) := by rw [hb2.cell (by exact hnl)]; exact k1
  have hol : ow < w.heap.size := World.block_lt_of_cell? _ _ h.owc
  have hfl : ff < w.heap.size := World.block_lt_of_cell? _ _ h.ffc
  have hel : e1 < w.heap.size := World.block_lt_of_cell? _ _ h.e1c
  have k3 : W3.cell? ⟨sl, 0, none⟩ = some (.slice none 0 0) := by rw [f3 sl 0 hsl (fun e => d2 e.symm) (fun e => d3 e.symm)]; exact hs
  have k3o : W3.cell? ⟨ow, 0, none⟩ = some (.iface 26 (.pointer (some ⟨ob, 0, none⟩))) := by rw [f3 ow 0 hol d4 d5]; exact h.owc
  have k4 : w4.cell? ⟨sl, 0, none⟩ = some (.slice none 0 0) := by rw [f4 sl 0 hsl (fun e => d2 e.symm) (fun e => d3 e.symm)]; exact hs
  have k4f : w4.frozen? ⟨sl, 0, none⟩ = false := by rw [hb4.frozen (by show sl < W3.heap.size; omega), hW3, World.frozen?_setCell, hb2.frozen (by exact hsl), hW1, World.frozen?_setCell]; exact h.slf
  have k4n : w4.cell? ⟨nl, 0, none⟩ = some (.slice (some ⟨g2, 0, none⟩) 1 cap2) := by rw [hb4.cell (by show nl < W3.heap.size; omega), hW3]; exact World.cell?_setCell_same _ _ _ k2
  have k4b : w4.cell? ⟨ff, 0, none⟩ = some (.bool bf) := by rw [f4 ff 0 hfl d7 d8]; exact h.ffc
  have k4e : w4.cell? ⟨e1, 0, none⟩ = some (.iface 45 (.pointer (some ⟨x1, 0, none⟩))) := by rw [f4 e1 0 hel d10 d11]; exact h.e1c
  have ho24 : w4.ownsRow w.heap.size 4 1 (.slice (some ⟨g2, 0, none⟩) 1 cap2) 1 [.bool true] := ho3.kept (row := none) ⟨hb4.os, hb4.tape, hb4.output, hb4.size, fun k hk _ => hb4.block k hk⟩ (Or.inr (by simp [Value.ownBlock]))
  have q31 := eq31 (.pointer (some ⟨ob, 0, none⟩))
  have hcf := h.calf
  have HFW : Hid (Fw (fun g => g = cal ∨ g = nl ∨ g = sl) w w4) := ⟨(hfw1.trans (Fw.of_below (hb2.mono (by omega) |> fun h => ⟨h.os, h.tape, h.output, h.size, h.block⟩))).trans ((by rw [hW3]; exact Fw.set (S := fun g => g = cal ∨ g = nl ∨ g = sl) ⟨nl, 0, none⟩ (Or.inr (Or.inl rfl)) _ : Fw _ w2 W3).trans (Fw.of_below hb4))⟩
  have HFZ : Hid (∀ g, g < w.heap.size → w4.frozen? ⟨g, 0, none⟩ = w.frozen? ⟨g, 0, none⟩) := ⟨fun g hg => by rw [hb4.frozen (by show g < W3.heap.size; omega), hW3, World.frozen?_setCell, hb2.frozen (by exact hg), hW1, World.frozen?_setCell]⟩
  have HO4 := hide (And.intro ho24 ho4)
  have HW1 := hide hW1
  have HW3 := hide hW3
  have H2 := hide (And.intro k1f k2)
  have H3 := hide (And.intro k3 (And.intro k3o (And.intro hr4 (And.intro k4 k4f))))
  have H4 := hide (And.intro hcal4 (And.intro k4b k4e))
  have HR2 := hide (And.intro hr2 k1)
  have HK := hide k4n
  clear hW1 hW3 k1f k2 k3 k3o hr4 k4 k4f hcal4 k4b k4e hr2 k1 k4n ho24 ho4 ho3 ho2 hb2 hb4 hb12 hb34 hg2 hg4 fc f3 f4 hfw1 h hcal1 hs hn hs3
  go_enter Yba.func5, Yba.ntmps5
  go_upto_region 2 with fail
  rw [← HW1.out]
  obtain ⟨hr2', k1⟩ := HR2.out
  have HRUN : Hid ((Builtin.append_ #[32, 32] 32 #[.slice none 0 0, .slice (some ⟨W1.heap.size, 0, none⟩) 1 1]).run Yba.prog (W1.alloc (.cells #[.bool true] 4)).drew = .ok (.slice (some ⟨g2, 0, none⟩) 1 cap2) w2) := ⟨hr2'⟩
  have hnl1 : nl < W1.heap.size := by omega
  clear hr2' hw1
  obtain ⟨k1f, k2⟩ := H2.out
  clear HR2 H2 HW1 hc hcf
  go_cut [] (fun wc => wc = W3)
  case first =>
    go_wp2_with fail
    refine wp_region_any (by kernel_rfl) ?_
    change wpAny _ _ _ _ _ _ _ (World.drew _)
    refine wpAny_take (i := 1) (v := ?v1) rfl (by kernel_rfl) (by kernel_rfl) (by kernel_rfl) (fun _ _ _ h => h) (Or.inl ⟨by rfl, ?hy1⟩) ?_
    case hy1 => intro w; go_simp; first | done | (with_reducible rfl)
    refine wpAny_take (i := 2) (v := ?v2) rfl (by kernel_rfl) (by kernel_rfl) (by kernel_rfl) (fun _ _ _ h => h) (Or.inl ⟨by rfl, ?hy2⟩) ?_
    case hy2 => intro w; go_simp; first | done | (with_reducible rfl)
    refine wpAny_ready (rs := [0, 3]) (by kernel_rfl) (by simp) ?_
    refine AllReady.cons rfl (fun K1 hK1 => ?_) (AllReady.cons rfl (fun K1 hK1 => ?_) AllReady.nil)
    · rw [if_pos (by rfl)]
      go_simp
      refine hK1 _ _ ?_
      refine wpAny_ready (rs := [3]) (by kernel_rfl) (by simp) ?_
      refine AllReady.cons rfl (fun K2 hK2 => ?_) AllReady.nil
      rw [if_pos (by rfl)]
      go_simp
      refine hK2 _ _ ?_
      refine wpAny_ready (rs := [4]) (by kernel_rfl) (by simp) ?_
      refine AllReady.cons rfl (fun K3 hK3 => ?_) AllReady.nil
      rw [if_pos (by rfl)]
      refine wp_append_run (.tmp 20) (.tmp 23) 32 32 rfl rfl (.slice none 0 0) (.slice (some ⟨W1.heap.size, 0, none⟩) 1 1) _ ?hx ?hy HRUN.out ?_
      case hx => go_simp
      case hy => go_simp
      refine hK3 _ _ ?_
      refine wpAny_ready (rs := [5]) (by kernel_rfl) (by simp) ?_
      refine AllReady.cons rfl (fun K4 hK4 => ?_) AllReady.nil
      rw [if_pos (by rfl)]
      go_simp
      refine hK4 _ _ ?_
      refine wpAny_done (by kernel_rfl) ?_ _
      go_wp2
      go_meet
      exact HW3.out.symm
    · rw [if_pos (by rfl)]
      go_simp
      refine hK1 _ _ ?_
      refine wpAny_ready (rs := [0]) (by kernel_rfl) (by simp) ?_
      refine AllReady.cons rfl (fun K2 hK2 => ?_) AllReady.nil
      rw [if_pos (by rfl)]
      go_simp
      refine hK2 _ _ ?_
      refine wpAny_ready (rs := [4]) (by kernel_rfl) (by simp) ?_
      refine AllReady.cons rfl (fun K3 hK3 => ?_) AllReady.nil
      rw [if_pos (by rfl)]
      refine wp_append_run (.tmp 20) (.tmp 23) 32 32 rfl rfl (.slice none 0 0) (.slice (some ⟨W1.heap.size, 0, none⟩) 1 1) _ ?hx ?hy HRUN.out ?_
      case hx => go_simp
      case hy => go_simp
      refine hK3 _ _ ?_
      refine wpAny_ready (rs := [5]) (by kernel_rfl) (by simp) ?_
      refine AllReady.cons rfl (fun K4 hK4 => ?_) AllReady.nil
      rw [if_pos (by rfl)]
      go_simp
      refine hK4 _ _ ?_
      refine wpAny_done (by kernel_rfl) ?_ _
      go_wp2
      go_meet
      exact HW3.out.symm
  case rest =>
    clear HRUN k1 k1f k2 HW3
    rw [hcut]
    clear hcut
    obtain ⟨k3, k3o, hr4', k4, k4f⟩ := H3.out
    clear H3
    have HRUN : Hid ((Builtin.append_ #[32, 32] 32 #[.slice none 0 0, .slice (some ⟨W3.heap.size, 0, none⟩) 1 1]).run Yba.prog (W3.alloc (.cells #[.bool false] 4)).drew = .ok (.slice (some ⟨g4, 0, none⟩) 1 cap4) w4) := ⟨hr4'⟩
    clear hr4'
    have hsl3 : sl < W3.heap.size := World.block_lt_of_cell? _ _ k3
    have hol3 : ow < W3.heap.size := World.block_lt_of_cell? _ _ k3o
    obtain ⟨W5, hW5⟩ : ∃ W5, W5 = w4.setCell ⟨sl, 0, none⟩ (.slice (some ⟨g4, 0, none⟩) 1 cap4) := ⟨_, rfl⟩
    have c5 : W5.cell? ⟨cal, 0, none⟩ = some (.int .i64 1) := by rw [hW5, World.cell?_setCell_other _ _ _ _ (by intro e; injection e with e1 _ _; exact d2 e1.symm)]; exact H4.out.1
    have f5 : W5.cell? ⟨ff, 0, none⟩ = some (.bool bf) := by rw [hW5, World.cell?_setCell_other _ _ _ _ (by intro e; injection e with e1 _ _; exact d9 e1.symm)]; exact H4.out.2.1
    have e5 : W5.cell? ⟨e1, 0, none⟩ = some (.iface 45 (.pointer (some ⟨x1, 0, none⟩))) := by rw [hW5, World.cell?_setCell_other _ _ _ _ (by intro e; injection e with e1 _ _; exact d12 e1.symm)]; exact H4.out.2.2
    have HP : Hid (Fw (fun g => g = cal ∨ g = nl ∨ g = sl) w W5 ∧ (∀ g, g < w.heap.size → W5.frozen? ⟨g, 0, none⟩ = w.frozen? ⟨g, 0, none⟩) ∧ W5.cell? ⟨cal, 0, none⟩ = some (.int .i64 1) ∧ W5.cell? ⟨nl, 0, none⟩ = some (.slice (some ⟨g2, 0, none⟩) 1 cap2) ∧ W5.ownsRow w.heap.size 4 1 (.slice (some ⟨g2, 0, none⟩) 1 cap2) 1 [.bool true] ∧ W5.cell? ⟨sl, 0, none⟩ = some (.slice (some ⟨g4, 0, none⟩) 1 cap4) ∧ W5.ownsRow w.heap.size 4 1 (.slice (some ⟨g4, 0, none⟩) 1 cap4) 1 [.bool false]) := by
      refine ⟨?_, fun g hg => by rw [hW5, World.frozen?_setCell]; exact HFZ.out g hg, c5, ?_, ?_, ?_, ?_⟩
      · rw [hW5]; exact HFW.out.trans (Fw.set (S := fun g => g = cal ∨ g = nl ∨ g = sl) ⟨sl, 0, none⟩ (Or.inr (Or.inr rfl)) _)
      · rw [hW5, World.cell?_setCell_other _ _ _ _ (by intro e; injection e with e1 _ _; exact d3 e1.symm)]; exact HK.out
      · rw [hW5]; exact ownsRow_setCell_below HO4.out.1 (by exact hsl) _
      · rw [hW5]; exact World.cell?_setCell_same _ _ _ k4
      · rw [hW5]; exact ownsRow_setCell_below HO4.out.2 (by exact hsl) _
    have HW5 := hide hW5
    clear hW5 HFW HO4 H4 HK
    go_upto_region 3 with fail
    go_cut [] (fun wc => wc = W5)
    case first =>
      go_wp2_with fail
      refine wp_region_any (by kernel_rfl) ?_
      change wpAny _ _ _ _ _ _ _ (World.drew _)
      refine wpAny_take (i := 1) (v := ?v1) rfl (by kernel_rfl) (by kernel_rfl) (by kernel_rfl) (fun _ _ _ h => h) (Or.inl ⟨by rfl, ?hy1⟩) ?_
      case hy1 => intro w; go_simp; first | done | (with_reducible rfl)
      refine wpAny_ready (rs := [0, 2]) (by kernel_rfl) (by simp) ?_
      refine AllReady.cons rfl (fun K1 hK1 => ?_) (AllReady.cons rfl (fun K1 hK1 => ?_) AllReady.nil)
      · rw [if_pos (by rfl)]
        go_simp
        refine hK1 _ _ ?_
        refine wpAny_ready (rs := [2]) (by kernel_rfl) (by simp) ?_
        refine AllReady.cons rfl (fun K2 hK2 => ?_) AllReady.nil
        rw [if_pos (by rfl)]
        go_simp
        refine hK2 _ _ ?_
        refine wpAny_take (i := 3) (v := ?v3) rfl (by kernel_rfl) (by kernel_rfl) (by kernel_rfl) (fun _ _ _ h => h) (Or.inl ⟨by rfl, ?hy3⟩) ?_
        case hy3 => intro w; go_simp; first | done | (with_reducible rfl)
        refine wpAny_ready (rs := [4]) (by kernel_rfl) (by simp) ?_
        refine AllReady.cons rfl (fun K4 hK4 => ?_) AllReady.nil
        rw [if_pos (by rfl)]
        go_simp
        refine hK4 _ _ ?_
        refine wpAny_ready (rs := [5]) (by kernel_rfl) (by simp) ?_
        refine AllReady.cons rfl (fun K5 hK5 => ?_) AllReady.nil
        rw [if_pos (by rfl)]
        refine wp_append_run (.tmp 25) (.tmp 29) 32 32 rfl rfl (.slice none 0 0) (.slice (some ⟨W3.heap.size, 0, none⟩) 1 1) _ ?hx ?hy HRUN.out ?_
        case hx => go_simp
        case hy => go_simp
        refine hK5 _ _ ?_
        refine wpAny_ready (rs := [6]) (by kernel_rfl) (by simp) ?_
        refine AllReady.cons rfl (fun K6 hK6 => ?_) AllReady.nil
        rw [if_pos (by rfl)]
        go_simp
        refine hK6 _ _ ?_
        refine wpAny_done (by kernel_rfl) ?_ _
        go_wp2
        go_meet
        exact HW5.out.symm
      · rw [if_pos (by rfl)]
        go_simp
        refine hK1 _ _ ?_
        refine wpAny_take (i := 3) (v := ?v3) rfl (by kernel_rfl) (by kernel_rfl) (by kernel_rfl) (fun _ _ _ h => h) (Or.inl ⟨by rfl, ?hy3⟩) ?_
        case hy3 => intro w; go_simp; first | done | (with_reducible rfl)
        refine wpAny_ready (rs := [0, 4]) (by kernel_rfl) (by simp) ?_
        refine AllReady.cons rfl (fun K3 hK3 => ?_) (AllReady.cons rfl (fun K3 hK3 => ?_) AllReady.nil)
        · rw [if_pos (by rfl)]
          go_simp
          refine hK3 _ _ ?_
          refine wpAny_ready (rs := [4]) (by kernel_rfl) (by simp) ?_
          refine AllReady.cons rfl (fun K4 hK4 => ?_) AllReady.nil
          rw [if_pos (by rfl)]
          go_simp
          refine hK4 _ _ ?_
          refine wpAny_ready (rs := [5]) (by kernel_rfl) (by simp) ?_
          refine AllReady.cons rfl (fun K5 hK5 => ?_) AllReady.nil
          rw [if_pos (by rfl)]
          refine wp_append_run (.tmp 25) (.tmp 29) 32 32 rfl rfl (.slice none 0 0) (.slice (some ⟨W3.heap.size, 0, none⟩) 1 1) _ ?hx ?hy HRUN.out ?_
          case hx => go_simp
          case hy => go_simp
          refine hK5 _ _ ?_
          refine wpAny_ready (rs := [6]) (by kernel_rfl) (by simp) ?_
          refine AllReady.cons rfl (fun K6 hK6 => ?_) AllReady.nil
          rw [if_pos (by rfl)]
          go_simp
          refine hK6 _ _ ?_
          refine wpAny_done (by kernel_rfl) ?_ _
          go_wp2
          go_meet
          exact HW5.out.symm
        · rw [if_pos (by rfl)]
          go_simp
          refine hK3 _ _ ?_
          refine wpAny_ready (rs := [0]) (by kernel_rfl) (by simp) ?_
          refine AllReady.cons rfl (fun K4 hK4 => ?_) AllReady.nil
          rw [if_pos (by rfl)]
          go_simp
          refine hK4 _ _ ?_
          refine wpAny_ready (rs := [5]) (by kernel_rfl) (by simp) ?_
          refine AllReady.cons rfl (fun K5 hK5 => ?_) AllReady.nil
          rw [if_pos (by rfl)]
          refine wp_append_run (.tmp 25) (.tmp 29) 32 32 rfl rfl (.slice none 0 0) (.slice (some ⟨W3.heap.size, 0, none⟩) 1 1) _ ?hx ?hy HRUN.out ?_
          case hx => go_simp
          case hy => go_simp
          refine hK5 _ _ ?_
          refine wpAny_ready (rs := [6]) (by kernel_rfl) (by simp) ?_
          refine AllReady.cons rfl (fun K6 hK6 => ?_) AllReady.nil
          rw [if_pos (by rfl)]
          go_simp
          refine hK6 _ _ ?_
          refine wpAny_done (by kernel_rfl) ?_ _
          go_wp2
          go_meet
          exact HW5.out.symm
    case rest =>
      clear HRUN k3 k3o k4 k4f HW5
      rw [hcut]
      clear hcut
      have l1 : cal < W5.heap.size := World.block_lt_of_cell? _ _ c5
      have l2 : nl < W5.heap.size := World.block_lt_of_cell? _ _ HP.out.2.2.2.1
      have l3 : sl < W5.heap.size := World.block_lt_of_cell? _ _ HP.out.2.2.2.2.2.1
      cases bf with
      | true =>
        go_wp2_with fail
        go_quiet (fail)
        go_wp2
        go_ret2
        have h := HP.out
        exact ⟨⟨_, rfl, fun _ => rfl⟩, ⟨h.1.os, h.1.tape, h.1.output, h.1.size, h.1.block⟩, h.2.1, h.2.2.1, g2, cap2, g4, cap4, hg24, h.2.2.2⟩
      | false =>
        go_wp2
        go_ret2
        have h := HP.out
        obtain ⟨p1, p2, p3, p4⟩ := h.2.2.2
        have hb : ∀ o, Below W5.heap.size W5 (W5.alloc o) := fun o => (Below.refl _ _).alloc (Nat.le_refl _) o
        exact ⟨⟨_, rfl, fun h => by cases h⟩, h.1.trans (Fw.of_below (hb _)), fun g hg => by rw [(hb _).frozen (by have := h.1.size; show g < W5.heap.size; omega)]; exact h.2.1 g hg, by rw [(hb _).cell (by exact l1)]; exact h.2.2.1, g2, cap2, g4, cap4, hg24, by rw [(hb _).cell (by exact l2)]; exact p1, p2.alloc _, by rw [(hb _).cell (by exact l3)]; exact p3, p4.alloc _⟩
end Go.Proofs.Ybulkcgfw
