import Derived.Test.YbulkcgegA5
namespace Go.Proofs.Ybulkcgeg
open Go.RowKit
theorem zero_new (w : World) : WtAt (w.alloc (.cells #[.string ⟨#[]⟩, .int .i64 0, .int .u64 0, .slice none 0 0, .slice none 0 0] 55)) w.heap.size 0 Wt.zero := by
  refine ⟨?_, ?_, ?_, ?_, ?_⟩ <;> simp [Wt.zero]
theorem WtAt.below {w w' : World} {b o : Nat} {t : Wt} (h : WtAt w b o t) (hb : Below w.heap.size w w') : WtAt w' b o t :=
  h.of_eq fun _ _ => (bcell hb).1 _ _ (World.block_lt_of_cell? _ _ h.c0)
theorem put0 {w' : World} {n : Nat} {t u : Wt} (h : WtAt w' n 0 u) : WtAt (((((w'.setCell ⟨n, 0, none⟩ (.string t.id)).setCell ⟨n, 1, none⟩ (.int .i64 t.due)).setCell ⟨n, 2, none⟩ (.int .u64 t.seq)).setCell ⟨n, 3, none⟩ (.slice t.pa t.pn t.pn)).setCell ⟨n, 4, none⟩ (.slice t.ma t.mn t.mn)) n 0 t := by
  have := putWt_same w' n 0 t u h
  simpa only [putWt, Nat.zero_add] using this
set_option maxRecDepth 100000 in
set_option maxHeartbeats 400000 in
theorem wfront_no (b o : Nat) (a : Option Addr) (c : Nat) (w : World) (hc : w.cell? ⟨b, o, none⟩ = some (.slice a 0 c)) :
    Calls Yba.prog 17 #[.pointer (some ⟨b, o, none⟩)] w fun e w' => e = .returned (.tuple #[.int .i64 0, .bool false]) ∧ w' = w := by
  go_enter Yba.func17, Yba.ntmps17
  go_wp2
  go_ret2
  exact ⟨rfl, rfl⟩
set_option maxRecDepth 100000 in
set_option maxHeartbeats 400000 in
theorem wfront_yes (b o ib : Nat) (x : Int) (w : World) (hc : w.cell? ⟨b, o, none⟩ = some (.slice (some ⟨ib, 0, none⟩) 1 1)) (hx : w.cell? ⟨ib, 0, none⟩ = some (.int .i64 x)) :
    Calls Yba.prog 17 #[.pointer (some ⟨b, o, none⟩)] w fun e w' => e = .returned (.tuple #[.int .i64 x, .bool true]) ∧ w' = w := by
  go_enter Yba.func17, Yba.ntmps17
  go_wp2
  go_ret2
  exact ⟨rfl, rfl⟩
theorem nnil43 (w : World) (a : Option Addr) (n c : Nat) : (binOp .neq 43 (.slice a n c) (.slice none 0 0)).run Yba.prog w = .ok (.bool (!a.isNone)) w := run_neq_slice_nil_any w 43 50 a n c 0 0 Yba.underlying43
set_option maxRecDepth 100000 in
set_option maxHeartbeats 400000 in
theorem sat_any (b o T K nc i : Nat) (t : Wt) (w : World) (hnc : nc ≤ 4) (hi : i < nc * 1024) (hc : w.cell? ⟨b, o, none⟩ = some (.slice (some ⟨T, 0, none⟩) nc nc)) (ht : ∀ c, c < nc → w.cell? ⟨T, c, none⟩ = some (.slice (some ⟨K + c, 0, none⟩) 1024 1024))
    (hm : w.cell? ⟨b, o + 9, none⟩ = some (.slice none 0 0)) (hw : WtAt w (K + i / 1024) (i % 1024 * 5) t) :
    Calls Yba.prog 18 #[.pointer (some ⟨b, o, none⟩), .int .i64 i] w fun e w' => e = .returned (.agg #[.string t.id, .int .i64 t.due, .int .u64 t.seq, .slice t.pa t.pn t.pn, .slice t.ma t.mn t.mn]) ∧ Below w.heap.size w w' := by
  obtain ⟨c0, c1, c2, c3, c4⟩ := hw
  have g1 := World.block_lt_of_cell? _ _ hc
  have g2 := World.block_lt_of_cell? _ _ c0
  have nn := nnil43
  simp only at g1 g2
  have HT := hide ht
  clear ht
  go_enter Yba.func18, Yba.ntmps18
  go_wp2_with (go_at_call 12; refine (at_any b o T K nc i _ hnc hi (cell_later ((Below.refl _ _).alloc (Nat.le_refl _) _) hc) (fun c h' => cell_later ((Below.refl _ _).alloc (Nat.le_refl _) _) (HT.out c h'))).mono ?_; rintro e w' ⟨rfl, rfl⟩)
  exact bodyPost_ret (v := .agg #[.string t.id, .int .i64 t.due, .int .u64 t.seq, .slice t.pa t.pn t.pn, .slice t.ma t.mn t.mn]) (by simp +arith [results, Yba.results18, go_sem]) rfl ⟨rfl, by repeat (first | exact Below.refl _ _ | refine Below.drew ?_ | refine Below.alloc ?_ (by simp +arith) _)⟩
set_option maxRecDepth 100000 in
set_option maxHeartbeats 400000 in
theorem left_any (b o : Nat) (n hd : Nat) (w : World) (h : hd ≤ n) (hn : n ≤ 4096) (h1 : w.cell? ⟨b, o + 1, none⟩ = some (.int .i64 n)) (h2 : w.cell? ⟨b, o + 6, none⟩ = some (.int .i64 hd)) :
    Calls Yba.prog 15 #[.pointer (some ⟨b, o, none⟩)] w fun e w' => e = .returned (.int .i64 (n - hd)) ∧ ∃ q, w' = w.drewN q := by
  go_enter Yba.func15, Yba.ntmps15
  go_wp2
  go_quiet (fail)
  go_wp2
  go_ret
  exact ⟨rfl, _, rfl⟩
set_option maxRecDepth 100000 in
set_option maxHeartbeats 400000 in
theorem front_no (b o : Nat) (a : Option Addr) (c : Nat) (w : World) (hc : w.cell? ⟨b, o + 2, none⟩ = some (.slice a 0 c)) :
    Calls Yba.prog 14 #[.pointer (some ⟨b, o, none⟩)] w fun e w' => e = .returned (.tuple #[.agg #[.string ⟨#[]⟩, .int .i64 0, .int .u64 0, .slice none 0 0, .slice none 0 0], .bool false]) ∧ Below w.heap.size w w' := by
  go_enter Yba.func14, Yba.ntmps14
  go_wp2_with (go_at_call 17; refine (wfront_no b (o + 2) a c _ (cell_later ((Below.refl _ _).alloc (Nat.le_refl _) _) hc)).mono ?_; rintro e w' ⟨rfl, rfl⟩)
  exact bodyPost_ret (v := .tuple #[.agg #[.string ⟨#[]⟩, .int .i64 0, .int .u64 0, .slice none 0 0, .slice none 0 0], .bool false]) (by simp +arith [results, Yba.results14, go_sem]) rfl ⟨rfl, by repeat (first | exact Below.refl _ _ | refine Below.drew ?_ | refine Below.alloc ?_ (by simp +arith) _)⟩
set_option maxRecDepth 100000 in
set_option maxHeartbeats 400000 in
theorem front_yes (b o ib T K nc i : Nat) (t : Wt) (w : World) (hw2 : w.cell? ⟨b, o + 2, none⟩ = some (.slice (some ⟨ib, 0, none⟩) 1 1)) (hx : w.cell? ⟨ib, 0, none⟩ = some (.int .i64 i)) (hnc : nc ≤ 4) (hi : i < nc * 1024) (hc : w.cell? ⟨b, o, none⟩ = some (.slice (some ⟨T, 0, none⟩) nc nc)) (ht : ∀ c, c < nc → w.cell? ⟨T, c, none⟩ = some (.slice (some ⟨K + c, 0, none⟩) 1024 1024))
    (hm : w.cell? ⟨b, o + 9, none⟩ = some (.slice none 0 0)) (hw : WtAt w (K + i / 1024) (i % 1024 * 5) t) :
    Calls Yba.prog 14 #[.pointer (some ⟨b, o, none⟩)] w fun e w' => e = .returned (.tuple #[.agg #[.string t.id, .int .i64 t.due, .int .u64 t.seq, .slice t.pa t.pn t.pn, .slice t.ma t.mn t.mn], .bool true]) ∧ Below w.heap.size w w' := by
  have HT := hide ht
  have HW := hide (fun (w' : World) (hb : Below w.heap.size w w') => hw.of_eq (w' := w') fun j hj => (bcell hb).1 _ _ (World.block_lt_of_cell? _ _ hw.c0))
  clear ht hw
  go_enter Yba.func14, Yba.ntmps14
  go_wp2_with (first | (go_at_call 17; refine (wfront_yes b (o + 2) ib i _ (cell_later ((Below.refl _ _).alloc (Nat.le_refl _) _) hw2) (cell_later ((Below.refl _ _).alloc (Nat.le_refl _) _) hx)).mono ?_; rintro e w' ⟨rfl, rfl⟩) | (go_at_call 18; refine (sat_any b o T K nc i t _ hnc hi (cell_later ((Below.refl _ _).alloc (Nat.le_refl _) _) hc) (fun c h' => cell_later ((Below.refl _ _).alloc (Nat.le_refl _) _) (HT.out c h')) (cell_later ((Below.refl _ _).alloc (Nat.le_refl _) _) hm) (HW.out _ ((Below.refl _ _).alloc (Nat.le_refl _) _))).mono ?_; rintro e w' ⟨rfl, hb⟩; obtain ⟨hc1, hc2⟩ := bcell hb))
  have hP := put0 (t := t) ((zero_new w).below hb)
  obtain ⟨p0, p1, p2, p3, p4⟩ := hP
  simp only [Nat.zero_add] at p0 p1 p2 p3 p4
  have hb2 := ((Below.refl w.heap.size w).alloc (Nat.le_refl _) (.cells #[.string ⟨#[]⟩, .int .i64 0, .int .u64 0, .slice none 0 0, .slice none 0 0] 55)).trans (hb.mono (by simp))
  exact bodyPost_ret (v := .tuple #[.agg #[.string t.id, .int .i64 t.due, .int .u64 t.seq, .slice t.pa t.pn t.pn, .slice t.ma t.mn t.mn], .bool true]) (by simp [results, Yba.results14, go_sem, p0, p1, p2, p3, p4]) rfl ⟨rfl, by repeat (first | exact hb2 | refine Below.setCell ?_ (by simp) _)⟩
end Go.Proofs.Ybulkcgeg
