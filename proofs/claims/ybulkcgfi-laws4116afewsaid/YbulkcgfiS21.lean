import Derived.Test.YbulkcgfiS18
import Derived.Test.YbulkcgfiS20
import Derived.Laws.CopyRow
namespace Go.Proofs.Ybulkcgfi
open Go.RowKit
set_option linter.unusedVariables false
set_option linter.unusedSimpArgs false
set_option maxRecDepth 100000
/-- The cells of a row of IDs. -/
def flat (d : Array ID) : List Value := d.toList.flatMap idc
theorem flat_len : ∀ (l : List ID), (∀ x ∈ l, x.length = 32) → (l.flatMap idc).length = l.length * 32
  | [], _ => rfl
  | x :: l, h => by
    rw [List.flatMap_cons, List.length_append, idc_len, h x (by simp), flat_len l (fun y hy => h y (by simp [hy])), List.length_cons]
    omega
theorem flat_at : ∀ (l : List ID), (∀ x ∈ l, x.length = 32) → ∀ (i j : Nat) (x : ID), l[i]? = some x → j < 32 → (l.flatMap idc)[i * 32 + j]? = (idc x)[j]?
  | [], _, i, j, x, hx, _ => by simp at hx
  | y :: l, h, 0, j, x, hx, hj => by
    simp at hx
    subst hx
    rw [List.flatMap_cons, List.getElem?_append_left (by rw [idc_len, h y (by simp)]; omega)]
    simp
  | y :: l, h, i + 1, j, x, hx, hj => by
    have hl : (idc y).length = 32 := by rw [idc_len, h y (by simp)]
    rw [List.flatMap_cons, List.getElem?_append_right (by omega), hl, show (i + 1) * 32 + j - 32 = i * 32 + j by omega]
    exact flat_at l (fun z hz => h z (by simp [hz])) i j x (by simpa using hx) hj
theorem flat_one (d : Array ID) : ∀ v ∈ flat d, v.oneCell' = true := fun v hv => by
  obtain ⟨x, _, hx⟩ := List.mem_flatMap.1 hv
  exact idc_one x v hx
/-- copy(a, b) at two rows of n IDs. -/
theorem copy_ids (w : World) (ty : TypeId) (g n c c' : Nat) (a : Addr) (cs : List Value) (hl : cs.length = n * 32) (hsrc : ∀ j v, cs[j]? = some v → w.cell? (a.add j) = some v) (ht : w.there g 0 (n * 32)) (h1 : ∀ v ∈ cs, v.oneCell' = true) :
    (Builtin.copy_ #[23, 23] ty #[.slice (some ⟨g, 0, none⟩) n c, .slice (some a) n c']).run Yba.prog w = .ok (goInt n) (w.setCells g 0 cs) := by
  have hl' := run_loadCells_list (P := Yba.prog) w a cs hsrc
  have hst := run_storeCells_cells (P := Yba.prog) g 0 cs 0 w (fun j hj => by simpa using (ht j (by omega)).1) (fun j hj => by simpa using (ht j (by omega)).2) h1
  have hs := info26
  cases hq : Yba.prog.info? 26 with
  | none => simp [hq] at hs
  | some i =>
    have hi : i.size = 32 := by simpa [hq] using hs
    rw [hl] at hl'
    simp only [Nat.add_zero] at hst
    simp [Builtin.copy_, run_underlying Yba.underlying23, Builtin.lenOf, Builtin.firstCells, sizeOf, typeInfo, hq, hi, hl', hst]
/-- A fresh row, all of it stored. -/
theorem SR.fresh {w : World} {d : Array ID} {Z : Array Value} {t : TypeId} (hz : Z.size = d.size * 32) (hok : ∀ x ∈ d.toList, x.length = 32) {g : Nat} (hg : g = w.heap.size) :
    SR ((w.alloc (.cells Z t)).setCells g 0 (flat d)) g d ((w.alloc (.cells Z t)).setCells g 0 (flat d)) ∧ Below w.heap.size w ((w.alloc (.cells Z t)).setCells g 0 (flat d)) ∧ (w.alloc (.cells Z t)).there g 0 (d.size * 32) ∧ g < ((w.alloc (.cells Z t)).setCells g 0 (flat d)).heap.size := by
  have hb : (w.alloc (.cells Z t)).heap[g]? = some (.cells Z t) := by rw [hg]; exact heap_alloc_new _ _
  have hth : (w.alloc (.cells Z t)).there g 0 (d.size * 32) := fun j hj => by
    refine ⟨?_, ?_⟩
    · simp only [World.cell?, hb]
      simp [hz]; omega
    · simp [World.frozen?, hb]
  have hfl : (flat d).length = d.size * 32 := by unfold flat; rw [flat_len _ hok]; simp
  have hbel : Below w.heap.size w (w.alloc (.cells Z t)) := (Below.refl _ _).alloc (Nat.le_refl _) _
  have ho := sc_os g (flat d) 0 (w.alloc (.cells Z t))
  refine ⟨⟨Fw.refl _ _, fun x hx j v hv => ?_, fun x hx => ?_, fun j => ?_⟩, ⟨ho.1.trans hbel.os, ho.2.1.trans hbel.tape, ho.2.2.trans hbel.output, by rw [sc_size]; exact hbel.size, fun k hk => by rw [sc_other g _ _ _ k (by omega)]; exact hbel.block k hk⟩, hth, by rw [sc_size, hg]; simp⟩
  · have hxl : (d[x]!).length = 32 := hok _ (by simp [hx])
    have hj : j < 32 := by have := (List.getElem?_eq_some_iff.1 hv).1; rwa [idc_len, hxl] at this
    have hf := flat_at d.toList hok x j d[x]! (by simp [hx]) hj
    have hlt : x * 32 + j < (flat d).length := by omega
    have hc := World.cell?_setCells_in g (flat d) 0 (w.alloc (.cells Z t)) (fun j hj => (hth j (by omega)).1) (x * 32 + j) hlt
    rw [Nat.zero_add] at hc
    rw [hc]
    have : (flat d)[x * 32 + j]? = some v := hf.trans hv
    rw [List.getElem?_eq_getElem hlt] at this
    exact this
  · exact hok _ (by simp [hx])
  · rw [World.frozen?_setCells]
    simp [World.frozen?, hb]
theorem info26' : (Yba.prog.info? 26).map (fun i => (i.size, i.bytes, i.zero)) = some (32, 32, some (.agg z32.toArray)) := by kernel_rfl
/-- The zero cells of n IDs. -/
def zc (n : Nat) : Array Value := madeCells z32.toArray (n * 32)
theorem zc_size (n : Nat) : (zc n).size = n * 32 := by simp [zc, madeCells]
theorem mk_ids (n : Nat) (hn : n ≤ 1024) (w : World) : (Instr.makeSlice 23 (.int .i64 n) (.int .i64 n)).run Yba.prog w = .ok (.slice (some ⟨w.heap.size, 0, none⟩) n n) (w.alloc (.cells (zc n) 26)) := by
  have hs := info26'
  cases hq : Yba.prog.info? 26 with
  | none => rw [hq] at hs; simp at hs
  | some i =>
    rw [hq] at hs
    simp only [Option.map_some, Option.some.injEq, Prod.mk.injEq] at hs
    have h := run_makeSlice (w := w) 23 26 i (.agg z32.toArray) Yba.underlying23 hq hs.2.2 .i64 .i64 n n (by omega) (Int.le_refl _) (by rw [hs.1]; omega) (by rw [hs.2.1]; omega) (by omega)
    rw [h, hs.1]
    rfl
/-- Both rows are made; what is left is the sort and the check. -/
theorem tail_any (g h n : Nat) (d : Array ID) (w W4 : World) (hd : d.size = n) (hn : n ≤ 1024) (hb : Below w.heap.size w W4) (hg0 : w.heap.size ≤ g) (hgh : h ≠ g) (hg : g < W4.heap.size) (hS : SR W4 g d W4) (hR : RO W4 h d) :
    (Calls Yba.prog 5 #[.slice (some ⟨g, 0, none⟩) n n] W4 fun e W5 => ∃ r : Array ID, e = .returned (.slice (some ⟨g, 0, none⟩) r.size n) ∧ (Calls Yba.prog 6 #[.slice (some ⟨h, 0, none⟩) n n, .slice (some ⟨g, 0, none⟩) r.size n] W5 fun e W6 => e = .returned (.bool true) ∧ Below w.heap.size w W6)) := by
  subst hd
  refine (sortids_any g d W4 hS hg hn).mono ?_
  rintro e W5 ⟨r, he, hr, hf⟩
  have hsz := hr.fw.size
  have hh := hR.lt
  have hb5 : Below w.heap.size w W5 := ⟨hr.fw.os.trans hb.os, hr.fw.tape.trans hb.tape, hr.fw.output.trans hb.output, by have := hb.size; omega, fun k hk => by rw [hr.fw.block k (by have := hb.size; omega) (by show ¬ k = g; omega)]; exact hb.block k hk⟩
  have hR5 : RO W5 h d := ⟨by omega, fun x hx j v hv => by rw [hr.fw.cell hh hgh]; exact hR.row x hx j v hv, hR.ok⟩
  refine ⟨r, he, (check_any h d.size g d.size d r W5 hR5 (hr.ro (by omega)) hn hf).mono ?_⟩
  rintro e W6 ⟨he6, hb6⟩
  exact ⟨he6, hb5.trans (hb6.mono (by have := hb5.size; omega))⟩
theorem flat_src {W : World} {g : Nat} {d : Array ID} (hR : RO W g d) : ∀ j v, (flat d)[j]? = some v → W.cell? ((⟨g, 0, none⟩ : Addr).add j) = some v := fun j v hv => by
  have hok : ∀ x ∈ d.toList, x.length = 32 := fun x hx => by
    obtain ⟨i, hi, rfl⟩ := mem_iff.1 hx
    exact hR.ok i hi
  have hl : j < d.size * 32 := by
    have h1 := (List.getElem?_eq_some_iff.1 hv).1
    have h2 : (flat d).length = d.size * 32 := by unfold flat; rw [flat_len _ hok]; simp
    omega
  have hx : j / 32 < d.size := by omega
  have hf := flat_at d.toList hok (j / 32) (j % 32) d[j / 32]! (by simp [hx]) (by omega)
  rw [show j / 32 * 32 + j % 32 = j by omega] at hf
  have := hR.row (j / 32) hx (j % 32) v (hf.symm.trans hv)
  rw [show j / 32 * 32 + j % 32 = j by omega] at this
  rw [Addr.add_mid, Nat.zero_add]
  exact this
set_option maxHeartbeats 4000000 in
theorem any_some (ad : Addr) (n cap : Nat) (d : Array ID) (w : World) (hd : d.size = n) (hn : n ≤ 1024) (hok : ∀ x ∈ d.toList, x.length = 32) (hsrc : ∀ j v, (flat d)[j]? = some v → w.cell? (ad.add j) = some v) :
    Calls Yba.prog 4 #[.slice (some ad) n cap] w fun e w' => e = .returned (.bool true) ∧ Below w.heap.size w w' := by
  have z0 : ¬ (1024 : Int) < n := by omega
  have z1 : ¬ 1024 < n := by omega
  have hfl : (flat d).length = n * 32 := by unfold flat; rw [flat_len _ hok]; simp [hd]
  have mk := mk_ids n hn
  obtain ⟨V1, hV1⟩ : ∃ V1, V1 = w.alloc (.cells (zc n) 26) := ⟨_, rfl⟩
  obtain ⟨g, hg⟩ : ∃ g, g = w.heap.size := ⟨_, rfl⟩
  obtain ⟨W2, hW2⟩ : ∃ W2, W2 = V1.setCells g 0 (flat d) := ⟨_, rfl⟩
  obtain ⟨f1, f2, f3, f4⟩ := SR.fresh (w := w) (d := d) (Z := zc n) (t := 26) (by rw [zc_size, hd]) hok hg
  rw [← hV1, ← hW2] at f1 f2 f4
  rw [← hV1, hd] at f3
  have hb1 : Below w.heap.size w V1 := by rw [hV1]; exact (Below.refl _ _).alloc (Nat.le_refl _) _
  have lt_src : ∀ j v, (flat d)[j]? = some v → (ad.add j).block < w.heap.size := fun j v hv => World.block_lt_of_cell? _ _ (hsrc j v hv)
  have c1 := fun ty => copy_ids V1 ty g n n cap ad (flat d) hfl (fun j v hv => by rw [hb1.cell (lt_src j v hv)]; exact hsrc j v hv) f3 (flat_one d)
  rw [← hW2] at c1
  obtain ⟨V3, hV3⟩ : ∃ V3, V3 = W2.alloc (.cells (zc n) 26) := ⟨_, rfl⟩
  obtain ⟨h, hh⟩ : ∃ h, h = W2.heap.size := ⟨_, rfl⟩
  obtain ⟨W4, hW4⟩ : ∃ W4, W4 = V3.setCells h 0 (flat d) := ⟨_, rfl⟩
  obtain ⟨e1, e2, e3, e4⟩ := SR.fresh (w := W2) (d := d) (Z := zc n) (t := 26) (by rw [zc_size, hd]) hok hh
  rw [← hV3, ← hW4] at e1 e2 e4
  rw [← hV3, hd] at e3
  have hb3 : Below W2.heap.size W2 V3 := by rw [hV3]; exact (Below.refl _ _).alloc (Nat.le_refl _) _
  have c2 := fun ty => copy_ids V3 ty h n n cap ad (flat d) hfl (fun j v hv => by
    have l1 := lt_src j v hv
    rw [hb3.cell (by have := f2.size; omega), f2.cell l1]
    exact hsrc j v hv) e3 (flat_one d)
  rw [← hW4] at c2
  have HT := hide (tail_any g h n d w W4 hd hn (f2.trans (e2.mono f2.size)) (by omega) (by omega) (by have := e2.size; omega) ((f1.below f4 e2).self) (e1.ro e4))
  simp only [goInt] at c1 c2
  have HV := hide (And.intro hV1 (And.intro hg (And.intro hV3 hh)))
  clear hok hsrc f1 f2 f3 f4 e1 e2 e3 e4 hb1 hb3 lt_src hV1 hg hW2 hV3 hh hW4 hfl
  go_enter Yba.func4, Yba.ntmps4
  go_upto_region 6 with fail
  rw [← HV.out.1, ← HV.out.2.1]
  go_upto_region 8 with fail
  rw [← HV.out.2.2.1, ← HV.out.2.2.2]
  go_wp2_with (first
    | (go_at_call 5; refine HT.out.mono ?_; rintro e W5 ⟨r, rfl, hs5⟩; have HC := hide hs5; clear hs5)
    | (go_at_call 6; refine HC.out.mono ?_; rintro e W6 ⟨rfl, hs6⟩; have HB6 := hide hs6; clear hs6))
  go_ret
  exact ⟨rfl, HB6.out⟩
theorem mk_none (w : World) : (Instr.makeSlice 23 (.int .i64 0) (.int .i64 0)).run Yba.prog w = .ok (.slice (some ⟨w.heap.size, 0, none⟩) 0 0) (w.alloc (.cells (zc 0) 26)) := mk_ids 0 (by omega) w
theorem copy_nil (w : World) (ty : TypeId) (a : Addr) : (Builtin.copy_ #[23, 23] ty #[.slice (some a) 0 0, .slice none 0 0]).run Yba.prog w = .ok (.int .i64 0) w :=
  run_copy_nil Yba.prog w 23 23 ty 26 a 0 0 Yba.underlying23 (by rw [info26]; rfl)
theorem any_nil (w : World) : Calls Yba.prog 4 #[.slice none 0 0] w fun e w' => e = .returned (.bool true) ∧ Below w.heap.size w w' := by
  have mk := mk_none
  have cp := copy_nil
  have hb1 : Below w.heap.size w (w.alloc (.cells (zc 0) 26)) := (Below.refl _ _).alloc (Nat.le_refl _) _
  have HB := hide hb1
  clear hb1
  go_enter Yba.func4, Yba.ntmps4
  go_wp2_with (first
    | (go_at_call 5; refine (sortids_nil _).mono ?_; rintro e W5 ⟨rfl, rfl⟩)
    | (go_at_call 6; refine (check_nil _ _).mono ?_; rintro e W6 ⟨rfl, rfl⟩))
  go_ret
  exact ⟨rfl, HB.out⟩
theorem any_big (a : Option Addr) (n cap : Nat) (w : World) (h : 1024 < n) : Calls Yba.prog 4 #[.slice a n cap] w fun e w' => e = .returned (.bool true) ∧ Below w.heap.size w w' := by
  have z : (1024 : Int) < n := by omega
  go_enter Yba.func4, Yba.ntmps4
  go_wp2
  go_ret
  exact ⟨rfl, Below.refl _ _⟩
end Go.Proofs.Ybulkcgfi
