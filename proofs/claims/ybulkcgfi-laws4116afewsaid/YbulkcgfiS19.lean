import Derived.Test.YbulkcgfiS9
import Derived.Test.YbulkcgfiE1
import Derived.Test.YbulkcgfiP2
namespace Go.Proofs.Ybulkcgfi
open Go.RowKit
set_option linter.unusedVariables false
set_option linter.unusedSimpArgs false
set_option maxRecDepth 100000
/-- Where the first i are alike, the next is no greater. -/
theorem le_at : ∀ (a b : List UInt8) (i : Nat), a < b → a.length = b.length → (∀ j, j < i → a[j]? = b[j]?) → ∀ x y, a[i]? = some x → b[i]? = some y → x.toNat ≤ y.toNat
  | [], _, _, _, _, _, _, _, h, _ => by simp at h
  | _ :: _, [], _, _, _, _, _, _, _, h => by simp at h
  | p :: ps, q :: qs, 0, h, hl, _, x, y, hx, hy => by
    simp at hx hy
    subst hx hy
    rw [List.cons_lt_cons_iff] at h
    rcases h with h | h
    · exact Nat.le_of_lt (UInt8.lt_iff_toNat_lt.1 h)
    · rw [h.1]; exact Nat.le_refl _
  | p :: ps, q :: qs, i + 1, h, hl, hj, x, y, hx, hy => by
    have h0 := hj 0 (by omega)
    simp at h0
    subst h0
    rw [List.cons_lt_cons_iff] at h
    rcases h with h | h
    · exact absurd h (UInt8.lt_irrefl _)
    · exact le_at ps qs i h.2 (by simpa using hl) (fun j hji => by simpa using hj (j + 1) (by omega)) x y (by simpa using hx) (by simpa using hy)
theorem ne_all {a b : List UInt8} (h : a < b) (hl : a.length = 32) (hl' : b.length = 32) (hj : ∀ j, j < 32 → a[j]? = b[j]?) : False := by
  have e : a = b := List.ext_getElem? (fun i => by
    by_cases hi : i < 32
    · exact hj i hi
    · rw [List.getElem?_eq_none (by omega), List.getElem?_eq_none (by omega)])
  subst e
  exact List.lt_irrefl _ h
set_option maxHeartbeats 8000000 in
/-- zzs4116acmp at two IDs in order. -/
theorem acmp_any (a b : List UInt8) (w : World) (hl : a.length = 32) (hl' : b.length = 32) (hab : a < b) :
    Calls Yba.prog 10 #[.agg (idc a).toArray, .agg (idc b).toArray] w fun e w' => e = .returned (.int .i64 (-1)) ∧ Below w.heap.size w w' := by
  obtain ⟨V, hV⟩ : ∃ V, V = (w.alloc (.cells (idc a).toArray 26)).alloc (.cells (idc b).toArray 26) := ⟨_, rfl⟩
  obtain ⟨A, hA⟩ : ∃ A, A = w.heap.size := ⟨_, rfl⟩
  obtain ⟨B, hB⟩ : ∃ B, B = w.heap.size + 1 := ⟨_, rfl⟩
  have h1 : V.heap[A]? = some (.cells (idc a).toArray 26) := by rw [hV, hA, heap_alloc_old _ _ (by simp)]; exact heap_alloc_new _ _
  have h2 : V.heap[B]? = some (.cells (idc b).toArray 26) := by
    have := heap_alloc_new (w.alloc (.cells (idc a).toArray 26)) (.cells (idc b).toArray 26)
    rw [hV, hB]; simpa using this
  have ha : V.rangeAt A 0 (idc a) := fun j v hv => by rw [Nat.zero_add]; simp only [World.cell?, h1]; simpa using hv
  have hb : V.rangeAt B 0 (idc b) := fun j v hv => by rw [Nat.zero_add]; simp only [World.cell?, h2]; simpa using hv
  have hbel : Below w.heap.size w V := by rw [hV]; exact ((Below.refl _ _).alloc (Nat.le_refl _) _).alloc (by simp) _
  have HV := hide (And.intro hV (And.intro hA hB))
  have HB := hide hbel
  have HR := hide (And.intro ha hb)
  have HAB := hide hab
  clear hV hA hB h1 h2 ha hb hbel hab
  go_enter Yba.func10, Yba.ntmps10
  go_upto_region 1 with fail
  rw [← HV.out.1, ← HV.out.2.2, ← HV.out.2.1]
  go_wp2_with fail
  go_loopw [5] (fun v wr => ∃ i : Nat, v = .int .i64 i ∧ i ≤ 32 ∧ Hid (∀ j, j < i → a[j]? = b[j]?) ∧ Hid (wr.rangeAt A 0 (idc a) ∧ wr.rangeAt B 0 (idc b) ∧ Below w.heap.size w wr)) (fun v _ => (32 - intOf v).toNat)
  case atStart => exact ⟨0, rfl, by omega, ⟨fun j hj => absurd hj (Nat.not_lt_zero _)⟩, ⟨HR.out.1, HR.out.2, HB.out⟩⟩
  case round =>
    obtain ⟨i, rfl, hi, HJ, HW⟩ := hrel
    by_cases hi2 : i < 32
    · have z1 : (i : Int) < 32 := by omega
      obtain ⟨x, hx⟩ : ∃ x, a[i]? = some x := ⟨a[i], List.getElem?_eq_getElem (by omega)⟩
      obtain ⟨y, hy⟩ : ∃ y, b[i]? = some y := ⟨b[i], List.getElem?_eq_getElem (by omega)⟩
      have hle := le_at a b i HAB.out (by omega) HJ.out x y hx hy
      have hcx : wr.cell? ⟨A, i, none⟩ = some (.int .u8 x.toNat) := by
        have := HW.out.1 i (.int .u8 x.toNat) (by simp [idc, hx])
        rw [Nat.zero_add] at this
        exact this
      have hcy : wr.cell? ⟨B, i, none⟩ = some (.int .u8 y.toNat) := by
        have := HW.out.2.1 i (.int .u8 y.toNat) (by simp [idc, hy])
        rw [Nat.zero_add] at this
        exact this
      have HXY := hide (And.intro hx hy)
      have z2 := wrap_in ((i : Int) + 1) (by omega) (by omega)
      have z4 : i < 32 := hi2
      clear hx hy
      by_cases hxy : x.toNat < y.toNat
      · have z3 : (x.toNat : Int) < y.toNat := by omega
        go_wp2_with fail
        go_quiet (fail)
        go_wp2
        go_ret
        exact ⟨rfl, ⟨HW.out.2.2.os, HW.out.2.2.tape, HW.out.2.2.output, HW.out.2.2.size, HW.out.2.2.block⟩⟩
      · have z3 : ¬ (x.toNat : Int) < y.toNat := by omega
        have z5 : ¬ (y.toNat : Int) < x.toNat := by omega
        have z6 : ¬ y.toNat < x.toNat := by omega
        have HJ2 : Hid (∀ j, j < i + 1 → a[j]? = b[j]?) := ⟨fun j hj => by
          by_cases h : j < i
          · exact HJ.out j h
          · have : j = i := by omega
            rw [this, HXY.out.1, HXY.out.2]
            congr 1
            exact UInt8.toNat_inj.1 (by omega)⟩
        go_wp2_with fail
        go_quiet (fail)
        go_wp2_with fail
        go_quiet (fail)
        go_wp2
        go_roundw
        case rel => exact ⟨i + 1, by go_num, by omega, HJ2, ⟨fun j v hv => HW.out.1 j v hv, fun j v hv => HW.out.2.1 j v hv, ⟨HW.out.2.2.os, HW.out.2.2.tape, HW.out.2.2.output, HW.out.2.2.size, HW.out.2.2.block⟩⟩⟩
        case measure => simp [intOf] <;> omega
    · exact (ne_all HAB.out hl hl' (fun j hj => HJ.out j (by omega))).elim
/-- A row of IDs that is only read. -/
structure RO (w : World) (g : Nat) (d : Array ID) : Prop where
  lt : g < w.heap.size
  row : ∀ x, x < d.size → w.rangeAt g (x * 32) (idc d[x]!)
  ok : ∀ x, x < d.size → (d[x]!).length = 32
theorem RO.below {w w' : World} {g : Nat} {d : Array ID} (h : RO w g d) (hb : Below w.heap.size w w') : RO w' g d :=
  ⟨by have := hb.size; have := h.lt; omega, fun x hx => range_below (h.row x hx) h.lt hb, h.ok⟩
theorem SR.ro {w : World} {g : Nat} {d : Array ID} {wr : World} (h : SR w g d wr) (hg : g < wr.heap.size) : RO wr g d := ⟨hg, h.row, h.ok⟩
theorem R2' {V w' : World} {g g' o o' : Nat} {cs cs' : List Value} (h : V.rangeAt g o cs) (h' : V.rangeAt g' o' cs') (hg : g < V.heap.size) (hg' : g' < V.heap.size) (hb : Below V.heap.size V w') : w'.rangeAt g o cs ∧ w'.rangeAt g' o' cs' := ⟨range_below h hg hb, range_below h' hg' hb⟩
set_option maxHeartbeats 8000000 in
/-- zzs4116ain at an ID that is there. -/
theorem ain_any (g cap : Nat) (d : Array ID) (id : List UInt8) (w : World) (hd : RO w g d) (hl : id.length = 32) (hn : d.size ≤ 1024) (hin : ∃ j, j < d.size ∧ d[j]! = id) :
    Calls Yba.prog 11 #[.agg (idc id).toArray, .slice (some ⟨g, 0, none⟩) d.size cap] w fun e w' => e = .returned (.bool true) ∧ Below w.heap.size w w' := by
  obtain ⟨V, hV⟩ : ∃ V, V = w.alloc (.cells (idc id).toArray 26) := ⟨_, rfl⟩
  obtain ⟨A, hA⟩ : ∃ A, A = w.heap.size := ⟨_, rfl⟩
  have h1 : V.heap[A]? = some (.cells (idc id).toArray 26) := by rw [hV, hA]; exact heap_alloc_new _ _
  have ha : V.rangeAt A 0 (idc id) := fun j v hv => by rw [Nat.zero_add]; simp only [World.cell?, h1]; simpa using hv
  have hbel : Below w.heap.size w V := by rw [hV]; exact (Below.refl _ _).alloc (Nat.le_refl _) _
  have hAl : A < V.heap.size := by rw [hA, hV]; simp
  have HV := hide (And.intro hV hA)
  have HB := hide (And.intro ha (And.intro hbel (And.intro (hd.below hbel) hAl)))
  obtain ⟨j0, hj0, hj1⟩ := hin
  have HJ := hide hj1
  clear hV hA h1 ha hbel hAl hj1 hd
  go_enter Yba.func11, Yba.ntmps11
  go_upto_region 1 with fail
  rw [← HV.out.1, ← HV.out.2]
  go_wp2_with fail
  go_loopw [5] (fun v wr => ∃ i : Nat, v = .int .i64 i ∧ i ≤ j0 ∧ Hid (wr.rangeAt A 0 (idc id) ∧ Below w.heap.size w wr ∧ RO wr g d ∧ A < wr.heap.size)) (fun v _ => (1024 - intOf v).toNat)
  case atStart => exact ⟨0, rfl, Nat.zero_le _, ⟨HB.out⟩⟩
  case round =>
    obtain ⟨i, rfl, hi, HW⟩ := hrel
    have z1 : (i : Int) < d.size := by omega
    have z2 := wrap_in ((i : Int) + 1) (by omega) (by omega)
    have hid : i < d.size := by omega
    have oa := HW.out.2.2.1.ok i hid
    obtain ⟨x, hx⟩ : ∃ x, x = d[i]! := ⟨_, rfl⟩
    rw [← hx] at oa
    have HX := hide hx
    have s1a : (Yba.prog.info? 26).map (·.size) = some (idc x).length := by rw [idc_len, oa]; exact info26
    have s0a : (Yba.prog.info? 26).map (·.size) = some (idc id).length := by rw [idc_len, hl]; exact info26
    have HQ := hide (eqd26 x id oa hl)
    have HR : Hid (wr.rangeAt g (i * 32) (idc x) ∧ wr.rangeAt A 0 (idc id)) := ⟨by rw [hx]; exact HW.out.2.2.1.row i hid, HW.out.1⟩
    have hg1 := HW.out.2.2.1.lt
    have hg2 := HW.out.2.2.2
    clear hx
    obtain ⟨W, rfl⟩ : ∃ W, W = wr := ⟨_, rfl⟩
    go_upto_region 4 with fail
    go_cut [17] (fun s wc => s = .bool (decide (x = id)) ∧ Below W.heap.size W wc)
    case first =>
      have hq := HQ.out
      go_wp2_with fail
      refine wp_region_held_drew (S := fun w' => w'.rangeAt g (i * 32) (idc x) ∧ w'.rangeAt A 0 (idc id)) (by kernel_rfl) (R2' HR.out.1 HR.out.2 hg1 hg2 ((Below.refl _ _).drew)) (fun hHeld => ?_)
      refine wpAnyH_take (i := 0) (v := ?_) rfl (by kernel_rfl) (by kernel_rfl) (by kernel_rfl) (fun _ _ _ h => h) (Or.inl ⟨by rfl, ?hy0⟩) hHeld ?_
      case hy0 => intro w hSw; go_simp; first | done | (with_reducible rfl)
      simp only [Act.put, List.getElem_toArray, List.getElem_cons_zero, List.getElem_cons_succ, List.setIfInBounds_toArray, List.set_cons_zero, List.set_cons_succ]
      refine wpAnyH_take (i := 1) (v := ?_) rfl (by kernel_rfl) (by kernel_rfl) (by kernel_rfl) (fun _ _ _ h => h) (Or.inl ⟨by rfl, ?hy1⟩) hHeld ?_
      case hy1 => intro w hSw; go_simp; first | done | (with_reducible rfl)
      simp only [Act.put, List.getElem_toArray, List.getElem_cons_zero, List.getElem_cons_succ, List.setIfInBounds_toArray, List.set_cons_zero, List.set_cons_succ]
      refine wpAnyH_take (i := 2) (v := ?_) rfl (by kernel_rfl) (by kernel_rfl) (by kernel_rfl) (fun _ _ _ h => h) (Or.inl ⟨by rfl, ?hy2⟩) hHeld ?_
      case hy2 => intro w hSw; go_simp; first | done | (with_reducible rfl)
      simp only [Act.put, List.getElem_toArray, List.getElem_cons_zero, List.getElem_cons_succ, List.setIfInBounds_toArray, List.set_cons_zero, List.set_cons_succ]
      refine wpAnyH_take (i := 3) (v := _) rfl (by kernel_rfl) (by kernel_rfl) (by kernel_rfl) (fun _ _ _ h => h) (yieldsIf_load_mid (by rfl) 26 (.tmp 14) rfl g (i * 32) rfl (idc x) _ (fun _ h => h.1) Yba.underlying26 rfl s1a) hHeld ?_
      simp only [Act.put, List.getElem_toArray, List.getElem_cons_zero, List.getElem_cons_succ, List.setIfInBounds_toArray, List.set_cons_zero, List.set_cons_succ]
      refine wpAnyH_take (i := 4) (v := _) rfl (by kernel_rfl) (by kernel_rfl) (by kernel_rfl) (fun _ _ _ h => h) (yieldsIf_load_mid (by rfl) 26 (.tmp 2) rfl A (0) rfl (idc id) _ (fun _ h => h.2) Yba.underlying26 rfl s0a) hHeld ?_
      simp only [Act.put, List.getElem_toArray, List.getElem_cons_zero, List.getElem_cons_succ, List.setIfInBounds_toArray, List.set_cons_zero, List.set_cons_succ]
      refine wpAnyH_take (i := 5) (v := ?_) rfl (by kernel_rfl) (by kernel_rfl) (by kernel_rfl) (fun _ _ _ h => h) (Or.inl ⟨by rfl, ?hy5⟩) hHeld ?_
      case hy5 => intro w hSw; go_simp; first | done | (with_reducible rfl)
      simp only [Act.put, List.getElem_toArray, List.getElem_cons_zero, List.getElem_cons_succ, List.setIfInBounds_toArray, List.set_cons_zero, List.set_cons_succ]
      refine wpAnyH_done (by kernel_rfl) ?_ _
      go_wp2
      go_meet
      exact ⟨by first | rfl | simp, by exact ((Below.refl _ _).drew)⟩
    case rest =>
      obtain ⟨hs, hbc⟩ := hcut
      subst hs
      have HW2 : Hid (wc.rangeAt A 0 (idc id) ∧ Below w.heap.size w wc ∧ RO wc g d ∧ A < wc.heap.size) := ⟨range_below HW.out.1 hg2 hbc, HW.out.2.1.trans (hbc.mono HW.out.2.1.size), HW.out.2.2.1.below hbc, by have := hbc.size; omega⟩
      clear hbc
      by_cases hxi : x = id
      · rw [decide_eq_true hxi]
        clear hxi
        go_wp2
        go_ret
        exact ⟨rfl, HW2.out.2.1⟩
      · have hij : i ≠ j0 := fun e => hxi (by rw [HX.out, e]; exact HJ.out)
        rw [decide_eq_false hxi]
        clear hxi
        go_wp2
        go_roundw
        case rel => exact ⟨i + 1, by go_num, by omega, HW2⟩
        case measure => simp [intOf] <;> omega
end Go.Proofs.Ybulkcgfi
