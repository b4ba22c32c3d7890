import Derived.Test.YbulkcgfiS4
namespace Go.Proofs.Ybulkcgfi
open Go.RowKit
set_option linter.unusedVariables false
set_option linter.unusedSimpArgs false
set_option maxRecDepth 100000
/-- The row and the count of swaps. -/
structure SK (w : World) (g sb : Nat) (d : Array ID) (k : Nat) (wr : World) : Prop where
  fw : Fw (fun t => t = sb) w wr
  cell : wr.cell? ⟨sb, 0, none⟩ = some (.int .i64 k)
  fz : wr.frozen? ⟨sb, 0, none⟩ = false
  row : ∀ x, x < d.size → wr.rangeAt g (x * 32) (idc d[x]!)
  ok : ∀ x, x < d.size → (d[x]!).length = 32
theorem SK.below {w : World} {g sb : Nat} {d : Array ID} {k : Nat} {wr w' : World} (h : SK w g sb d k wr) (hg : g < wr.heap.size) (hb : Below wr.heap.size wr w') : SK w g sb d k w' := by
  have l : sb < wr.heap.size := World.block_lt_of_cell? _ _ h.cell
  exact ⟨h.fw.trans (Fw.of_below hb), by rw [hb.cell (by exact l)]; exact h.cell, by rw [hb.frozen (by exact l)]; exact h.fz, fun x hx j v hv => by rw [hb.cell (by exact hg)]; exact h.row x hx j v hv, h.ok⟩
theorem SK.inc {w : World} {g sb : Nat} {d : Array ID} {k : Nat} {wr : World} (h : SK w g sb d k wr) (hne : g ≠ sb) : SK w g sb d (k + 1) (wr.setCell ⟨sb, 0, none⟩ (.int .i64 ((k : Int) + 1))) :=
  ⟨h.fw.trans ⟨rfl, rfl, rfl, by simp, fun t _ ht => Below.heap_setCell _ _ _ _ (fun e => ht (by rw [e]))⟩, by rw [World.cell?_setCell_same _ _ _ h.cell]; simp, by rw [World.frozen?_setCell]; exact h.fz, fun x hx j v hv => by rw [World.cell?_setCell_other _ _ _ _ (by intro e; injection e with e _ _; exact hne e.symm)]; exact h.row x hx j v hv, h.ok⟩
set_option maxHeartbeats 4000000 in
theorem order2_any (g sb cap a b k : Nat) (d : Array ID) (w0 w : World) (h0 : SK w0 g sb d k w) (hg : g < w.heap.size) (hne : g ≠ sb) (ha : a < d.size) (hb : b < d.size) (hn : d.size ≤ 1024) (hk : k ≤ 100) :
    Calls Yba.prog 31 #[.slice (some ⟨g, 0, none⟩) d.size cap, .int .i64 a, .int .i64 b, .pointer (some ⟨sb, 0, none⟩), .func (.func 8) #[] #[]] w fun e w' => e = .returned (.tuple #[.int .i64 (Sort.order2 Sort.ltStr d a b k).1, .int .i64 (Sort.order2 Sort.ltStr d a b k).2.1]) ∧ SK w0 g sb d (Sort.order2 Sort.ltStr d a b k).2.2 w' := by
  have r1 := h0.row b hb
  have r0 := h0.row a ha
  have o1 := h0.ok b hb
  have o0 := h0.ok a ha
  have hc := h0.cell
  have hf := h0.fz
  have lsb : sb < w.heap.size := World.block_lt_of_cell? _ _ hc
  obtain ⟨x, hx⟩ : ∃ x, x = d[b]! := ⟨_, rfl⟩
  obtain ⟨y, hy⟩ : ∃ y, y = d[a]! := ⟨_, rfl⟩
  rw [← hx] at r1 o1
  rw [← hy] at r0 o0
  have n3 : (b : Int) < d.size := by omega
  have n4 : (a : Int) < d.size := by omega
  have n5 := wrap_in ((k : Int) + 1) (by omega) (by omega)
  have s1 : (Yba.prog.info? 26).map (·.size) = some (idc x).length := by rw [idc_len, o1]; exact info26
  have s0 : (Yba.prog.info? 26).map (·.size) = some (idc y).length := by rw [idc_len, o0]; exact info26
  have HX := hide (And.intro hx (And.intro hy h0))
  have HR := hide (And.intro r1 r0)
  have HCF := hide (And.intro hc hf)
  clear h0 hx hy r1 r0 hc hf
  go_enter Yba.func31, Yba.ntmps31
  go_upto_region 1 with fail
  go_cut [22] (fun s wc => s = .bool (Sort.ltStr x y) ∧ Below w.heap.size w wc)
  case first =>
    go_wp2_with fail
    refine wp_region_held_drew (S := fun w' => w'.rangeAt g (b * 32) (idc x) ∧ w'.rangeAt g (a * 32) (idc y)) (by kernel_rfl) (R2 HR.out.1 HR.out.2 hg ((Below.refl _ _).drew)) (fun hHeld => ?_)
    refine wpAnyH_take (i := 0) (v := ?_) rfl (by kernel_rfl) (by kernel_rfl) (by kernel_rfl) (fun _ _ _ h => h) (Or.inl ⟨by rfl, ?hy0⟩) hHeld ?_
    case hy0 => intro w hSw; go_simp; first | done | (with_reducible rfl)
    simp only [Act.put, List.getElem_toArray, List.getElem_cons_zero, List.getElem_cons_succ, List.setIfInBounds_toArray, List.set_cons_zero, List.set_cons_succ]
    refine wpAnyH_take (i := 1) (v := ?_) rfl (by kernel_rfl) (by kernel_rfl) (by kernel_rfl) (fun _ _ _ h => h) (Or.inl ⟨by rfl, ?hy1⟩) hHeld ?_
    case hy1 => intro w hSw; go_simp; first | done | (with_reducible rfl)
    simp only [Act.put, List.getElem_toArray, List.getElem_cons_zero, List.getElem_cons_succ, List.setIfInBounds_toArray, List.set_cons_zero, List.set_cons_succ]
    refine wpAnyH_take (i := 2) (v := ?_) rfl (by kernel_rfl) (by kernel_rfl) (by kernel_rfl) (fun _ _ _ h => h) (Or.inl ⟨by rfl, ?hy2⟩) hHeld ?_
    case hy2 => intro w hSw; go_simp; first | done | (with_reducible rfl)
    simp only [Act.put, List.getElem_toArray, List.getElem_cons_zero, List.getElem_cons_succ, List.setIfInBounds_toArray, List.set_cons_zero, List.set_cons_succ]
    refine wpAnyH_take (i := 3) (v := ?_) rfl (by kernel_rfl) (by kernel_rfl) (by kernel_rfl) (fun _ _ _ h => h) (Or.inl ⟨by rfl, ?hy3⟩) hHeld ?_
    case hy3 => intro w hSw; go_simp; first | done | (with_reducible rfl)
    simp only [Act.put, List.getElem_toArray, List.getElem_cons_zero, List.getElem_cons_succ, List.setIfInBounds_toArray, List.set_cons_zero, List.set_cons_succ]
    refine wpAnyH_take (i := 4) (v := _) rfl (by kernel_rfl) (by kernel_rfl) (by kernel_rfl) (fun _ _ _ h => h) (yieldsIf_load_mid (by rfl) 26 (.tmp 15) rfl g (b * 32) rfl (idc x) _ (fun _ h => h.1) Yba.underlying26 rfl s1) hHeld ?_
    simp only [Act.put, List.getElem_toArray, List.getElem_cons_zero, List.getElem_cons_succ, List.setIfInBounds_toArray, List.set_cons_zero, List.set_cons_succ]
    refine wpAnyH_take (i := 5) (v := ?_) rfl (by kernel_rfl) (by kernel_rfl) (by kernel_rfl) (fun _ _ _ h => h) (Or.inl ⟨by rfl, ?hy5⟩) hHeld ?_
    case hy5 => intro w hSw; go_simp; first | done | (with_reducible rfl)
    simp only [Act.put, List.getElem_toArray, List.getElem_cons_zero, List.getElem_cons_succ, List.setIfInBounds_toArray, List.set_cons_zero, List.set_cons_succ]
    refine wpAnyH_take (i := 6) (v := ?_) rfl (by kernel_rfl) (by kernel_rfl) (by kernel_rfl) (fun _ _ _ h => h) (Or.inl ⟨by rfl, ?hy6⟩) hHeld ?_
    case hy6 => intro w hSw; go_simp; first | done | (with_reducible rfl)
    simp only [Act.put, List.getElem_toArray, List.getElem_cons_zero, List.getElem_cons_succ, List.setIfInBounds_toArray, List.set_cons_zero, List.set_cons_succ]
    refine wpAnyH_take (i := 7) (v := ?_) rfl (by kernel_rfl) (by kernel_rfl) (by kernel_rfl) (fun _ _ _ h => h) (Or.inl ⟨by rfl, ?hy7⟩) hHeld ?_
    case hy7 => intro w hSw; go_simp; first | done | (with_reducible rfl)
    simp only [Act.put, List.getElem_toArray, List.getElem_cons_zero, List.getElem_cons_succ, List.setIfInBounds_toArray, List.set_cons_zero, List.set_cons_succ]
    refine wpAnyH_take (i := 8) (v := _) rfl (by kernel_rfl) (by kernel_rfl) (by kernel_rfl) (fun _ _ _ h => h) (yieldsIf_load_mid (by rfl) 26 (.tmp 19) rfl g (a * 32) rfl (idc y) _ (fun _ h => h.2) Yba.underlying26 rfl s0) hHeld ?_
    simp only [Act.put, List.getElem_toArray, List.getElem_cons_zero, List.getElem_cons_succ, List.setIfInBounds_toArray, List.set_cons_zero, List.set_cons_succ]
    refine wpAnyH_ready (rs := [9]) (by kernel_rfl) (by simp) ?_
    refine AllReadyH.cons rfl (fun K hK => ?_) AllReadyH.nil
    rw [if_pos (by rfl)]
    go_simp
    refine (order_any x y _ o1 o0).mono ?_
    rintro e w5 ⟨⟨cc, rfl, hcc⟩, hw5⟩; have HB5 := hide (un_drew hw5); have HC := hide hcc; clear hw5 hcc
    clear hHeld
    refine hK.out _ _ (R2 HR.out.1 HR.out.2 hg HB5.out) (fun hHeld => ?_)
    clear hK K
    refine wpAnyH_take (i := 10) (v := ?_) rfl (by kernel_rfl) (by kernel_rfl) (by kernel_rfl) (fun _ _ _ h => h) (Or.inl ⟨by rfl, ?hy10⟩) hHeld ?_
    case hy10 => intro w hSw; go_simp; first | done | (with_reducible rfl)
    simp only [Act.put, List.getElem_toArray, List.getElem_cons_zero, List.getElem_cons_succ, List.setIfInBounds_toArray, List.set_cons_zero, List.set_cons_succ]
    refine wpAnyH_done (by kernel_rfl) ?_ _
    go_wp2
    go_meet
    exact ⟨by congr 1; unfold Sort.ltStr; exact decide_eq_decide.2 HC.out, HB5.out⟩
  case rest =>
    obtain ⟨hs22, hbc⟩ := hcut
    subst hs22
    have HS2 := hide (HX.out.2.2.below hg hbc)
    have hc := HS2.out.cell
    have hf := HS2.out.fz
    clear hbc HR HCF
    have HE : Hid (Sort.order2 Sort.ltStr d a b k = if Sort.ltStr x y then (b, a, k + 1) else (a, b, k)) := ⟨by unfold Sort.order2; rw [← HX.out.1, ← HX.out.2.1]⟩
    generalize hbb : Sort.ltStr x y = bb
    rw [hbb] at HE
    clear hbb
    cases bb with
    | true =>
      have HI := hide (HS2.out.inc hne)
      go_wp2
      go_ret2
      rw [HE.out]
      exact ⟨rfl, HI.out⟩
    | false =>
      go_wp2
      go_ret2
      rw [HE.out]
      exact ⟨rfl, HS2.out⟩
end Go.Proofs.Ybulkcgfi
