import Derived.Test.YbulkcgfiS21
namespace Go.Proofs.Ybulkcgfi
open Go.RowKit
set_option linter.unusedVariables false
set_option linter.unusedSimpArgs false
set_option maxRecDepth 100000
def zid : ID := List.replicate 32 0
theorem idc_zid : idc zid = z32 := by rfl
theorem SR.zero {w : World} {n g : Nat} (hg : g = w.heap.size) : SR (w.alloc (.cells (zc n) 26)) g (Array.replicate n zid) (w.alloc (.cells (zc n) 26)) := by
  have hb : (w.alloc (.cells (zc n) 26)).heap[g]? = some (.cells (zc n) 26) := by rw [hg]; exact heap_alloc_new _ _
  have hx' : ∀ x, x < (Array.replicate n zid).size → (Array.replicate n zid)[x]! = zid := fun x hx => by simp at hx; simp [hx]
  refine ⟨Fw.refl _ _, fun x hx j v hv => ?_, fun x hx => by rw [hx' x hx]; rfl, fun j => by simp [World.frozen?, hb]⟩
  rw [hx' x hx, idc_zid] at hv
  simp at hx
  have hj : j < 32 := (List.getElem?_eq_some_iff.1 hv).1
  have hv2 : v = .int .u8 0 := List.eq_of_mem_replicate (List.mem_of_getElem? hv)
  have hs : z32.toArray.size = 32 := by rfl
  have hl : (x * 32 + j) % z32.toArray.size < z32.toArray.size := Nat.mod_lt _ (by rw [hs]; omega)
  have hz : z32.toArray[(x * 32 + j) % z32.toArray.size]! = .int .u8 0 := by
    rw [getElem!_pos z32.toArray _ hl, List.getElem_toArray]
    exact List.eq_of_mem_replicate (List.getElem_mem _)
  simp only [World.cell?, hb]
  have hlt : x * 32 + j < n * 32 := by omega
  have : (zc n)[x * 32 + j]? = some (.int .u8 0) := by
    unfold zc madeCells
    rw [Array.getElem?_map, Array.getElem?_range, if_pos hlt]
    simp only [Option.map_some, hz]
  rw [hv2]
  simpa using this
/-- One byte of one ID stored. -/
theorem SR.setByte {w : World} {g : Nat} {d : Array ID} {wr : World} (h : SR w g d wr) {i j : Nat} (hi : i < d.size) (hj : j < 32) (b : UInt8) :
    SR w g (d.setIfInBounds i (d[i]!.set j b)) (wr.setCell ⟨g, i * 32 + j, none⟩ (.int .u8 b.toNat)) := by
  refine ⟨h.fw.trans ⟨rfl, rfl, rfl, by simp, fun t _ ht => Below.heap_setCell _ _ _ _ ht⟩, fun x hx k u hu => ?_, fun x hx => ?_, fun k => by rw [World.frozen?_setCell]; exact h.fz k⟩
  · simp only [Array.size_setIfInBounds] at hx
    rw [get!_set hi] at hu
    obtain ⟨v0, hv0⟩ := Option.isSome_iff_exists.1 ((h.there hi) j hj).1
    by_cases hxi : x = i
    · subst hxi
      rw [if_pos rfl] at hu
      have hk : k < 32 := by have := (List.getElem?_eq_some_iff.1 hu).1; rwa [idc_len, List.length_set, h.ok x hi] at this
      by_cases hkj : k = j
      · subst hkj
        rw [World.cell?_setCell_same _ _ _ hv0]
        unfold idc at hu
        rw [List.getElem?_map, List.getElem?_set_self (by rw [h.ok x hi]; exact hj)] at hu
        simpa using hu
      · rw [World.cell?_setCell_other _ _ _ _ (by intro e; injection e with _ e _; omega)]
        unfold idc at hu
        rw [List.getElem?_map, List.getElem?_set_ne (Ne.symm hkj), ← List.getElem?_map] at hu
        exact h.row x hi k u hu
    · rw [if_neg hxi] at hu
      have hk : k < 32 := by have := (List.getElem?_eq_some_iff.1 hu).1; rwa [idc_len, h.ok x hx] at this
      rw [World.cell?_setCell_other _ _ _ _ (by intro e; injection e with _ e _; omega)]
      exact h.row x hx k u hu
  · simp only [Array.size_setIfInBounds] at hx
    rw [get!_set hi]
    split
    · rw [List.length_set]; exact h.ok i hi
    · exact h.ok x hx
theorem wrap_byte (x : Int) : ∃ b : UInt8, IntKind.u8.wrap x = b.toNat := by
  refine ⟨UInt8.ofNat (IntKind.u8.wrap x).toNat, ?_⟩
  rw [UInt8.toNat_ofNat']
  have h : 0 ≤ IntKind.u8.wrap x ∧ IntKind.u8.wrap x < 256 := by
    simp [IntKind.wrap, IntKind.signed, IntKind.bits]; omega
  omega
set_option maxHeartbeats 4000000 in
theorem few_some (ad : Addr) (n cap : Nat) (ks : Nat → Int) (w : World) (hn : n ≤ 1024) (hks : 0 < n → ∃ b o, ad = ⟨b, o, none⟩ ∧ ∀ i, i < n → w.cell? ⟨b, o + i, none⟩ = some (.int .u16 (ks i))) :
    Calls Yba.prog 3 #[.slice (some ad) n cap] w fun e w' => e = .returned (.bool true) ∧ Below w.heap.size w w' := by
  have z0 : ¬ (1024 : Int) < n := by omega
  have z1 : ¬ 1024 < n := by omega
  have mk := mk_ids n hn
  obtain ⟨V1, hV1⟩ : ∃ V1, V1 = w.alloc (.cells (zc n) 26) := ⟨_, rfl⟩
  obtain ⟨g, hg⟩ : ∃ g, g = w.heap.size := ⟨_, rfl⟩
  have f1 := SR.zero (w := w) (n := n) hg
  rw [← hV1] at f1
  have hb1 : Below w.heap.size w V1 := by rw [hV1]; exact (Below.refl _ _).alloc (Nat.le_refl _) _
  have hgV : g < V1.heap.size := by rw [hg, hV1]; simp
  have HV := hide (And.intro hV1 hg)
  have HS := hide (And.intro f1 hb1)
  have HK := hide hks
  have hgw : w.heap.size ≤ g := by omega
  clear hV1 hg f1 hb1 hks
  go_enter Yba.func3, Yba.ntmps3
  go_upto_region 6 with fail
  rw [← HV.out.1, ← HV.out.2]
  go_wp2_with fail
  go_loopw [18] (fun v wr => ∃ (i : Nat) (dk : Array ID), v = .int .i64 i ∧ i ≤ n ∧ dk.size = n ∧ Hid (SR V1 g dk wr)) (fun v _ => ((n : Int) - intOf v).toNat)
  case atStart => exact ⟨0, Array.replicate n zid, rfl, by omega, by simp, ⟨HS.out.1⟩⟩
  case round =>
    obtain ⟨i, dk, rfl, hi, hdk, HD⟩ := hrel
    by_cases hin : i < n
    · obtain ⟨b, o, rfl, hc⟩ := HK.out (by omega)
      have hbl : b < w.heap.size := World.block_lt_of_cell? _ _ (hc i hin)
      have hck : wr.cell? ⟨b, o + i, none⟩ = some (.int .u16 (ks i)) := by
        rw [HD.out.fw.cell (by have := HS.out.2.size; omega) (by show ¬ b = g; omega), HS.out.2.cell (by exact hbl)]
        exact hc i hin
      clear hc
      have y1 : (i : Int) < n := by omega
      have y2 := wrap_in ((i : Int) + 1) (by omega) (by omega)
      obtain ⟨K, hK⟩ : ∃ K, K = ks i := ⟨_, rfl⟩
      rw [← hK] at hck
      obtain ⟨q0, hq0⟩ : ∃ q, bits .and .u16 K 3 = q := ⟨_, rfl⟩
      obtain ⟨b0, hb0⟩ := wrap_byte q0
      have hid : i < dk.size := by omega
      obtain ⟨c0, hc0⟩ := Option.isSome_iff_exists.1 ((HD.out.there hid) 0 (by omega)).1
      rw [Nat.add_zero] at hc0
      have hf0 := HD.out.fz (i * 32)
      have HD1 := hide (HD.out.setByte hid (j := 0) (by omega) b0)
      rw [Nat.add_zero] at HD1
      clear hK
      go_upto_region 10 with fail
      obtain ⟨d1, hd1⟩ : ∃ d1, d1 = dk.setIfInBounds i (dk[i]!.set 0 b0) := ⟨_, rfl⟩
      obtain ⟨W1, hW1⟩ : ∃ W1, W1 = wr.setCell ⟨g, i * 32, none⟩ (.int .u8 b0.toNat) := ⟨_, rfl⟩
      rw [← hW1]
      rw [← hd1, ← hW1] at HD1
      have hds1 : d1.size = n := by rw [hd1, Array.size_setIfInBounds]; exact hdk
      clear hd1 hW1 hc0 hf0 hck
      obtain ⟨k2, hk2⟩ : ∃ k2, K / 4 = k2 := ⟨_, rfl⟩
      obtain ⟨q1, hq1⟩ : ∃ q, bits .and .u16 k2 1 = q := ⟨_, rfl⟩
      obtain ⟨b1, hb1⟩ := wrap_byte q1
      have hid1 : i < d1.size := by omega
      obtain ⟨c1, hc1⟩ := Option.isSome_iff_exists.1 ((HD1.out.there hid1) 15 (by omega)).1
      have hf1 := HD1.out.fz (i * 32 + 15)
      have HD2 := hide (HD1.out.setByte hid1 (j := 15) (by omega) b1)
      go_upto_region 11 with fail
      obtain ⟨d2, hd2⟩ : ∃ d2, d2 = d1.setIfInBounds i (d1[i]!.set 15 b1) := ⟨_, rfl⟩
      obtain ⟨W2, hW2⟩ : ∃ W2, W2 = W1.setCell ⟨g, i * 32 + 15, none⟩ (.int .u8 b1.toNat) := ⟨_, rfl⟩
      rw [← hW2]
      rw [← hd2, ← hW2] at HD2
      have hds2 : d2.size = n := by rw [hd2, Array.size_setIfInBounds]; exact hds1
      clear hd2 hW2 hc1 hf1 hq1 hb1
      obtain ⟨k3, hk3⟩ : ∃ k3, K / 8 = k3 := ⟨_, rfl⟩
      obtain ⟨q2, hq2⟩ : ∃ q, bits .and .u16 k3 3 = q := ⟨_, rfl⟩
      obtain ⟨b2, hb2⟩ := wrap_byte q2
      have hid2 : i < d2.size := by omega
      obtain ⟨c2, hc2⟩ := Option.isSome_iff_exists.1 ((HD2.out.there hid2) 31 (by omega)).1
      have hf2 := HD2.out.fz (i * 32 + 31)
      have HD3 := hide (HD2.out.setByte hid2 (j := 31) (by omega) b2)
      obtain ⟨d3, hd3⟩ : ∃ d3, d3 = d2.setIfInBounds i (d2[i]!.set 31 b2) := ⟨_, rfl⟩
      rw [← hd3] at HD3
      have hds3 : d3.size = n := by rw [hd3, Array.size_setIfInBounds]; exact hds2
      clear hd3
      go_wp2
      go_roundw
      case rel => exact ⟨i + 1, d3, by go_num, by omega, hds3, HD3⟩
      case measure => simp [intOf] <;> omega
    · have y1 : ¬ (i : Int) < n := by omega
      obtain ⟨W, rfl⟩ : ∃ W, W = wr := ⟨_, rfl⟩
      have hSW := HD.out
      have hgW : g < W.heap.size := by have := hSW.fw.size; omega
      have hbW : Below w.heap.size w W := ⟨hSW.fw.os.trans HS.out.2.os, hSW.fw.tape.trans HS.out.2.tape, hSW.fw.output.trans HS.out.2.output, by have := HS.out.2.size; have := hSW.fw.size; omega, fun k hk => by rw [hSW.fw.block k (by have := HS.out.2.size; omega) (by show ¬ k = g; omega)]; exact HS.out.2.block k hk⟩
      have hok : ∀ x ∈ dk.toList, x.length = 32 := fun x hx => by
        obtain ⟨q, hq, rfl⟩ := mem_iff.1 hx
        exact hSW.ok q hq
      have hfl : (flat dk).length = n * 32 := by unfold flat; rw [flat_len _ hok]; simp [hdk]
      obtain ⟨V3, hV3⟩ : ∃ V3, V3 = W.alloc (.cells (zc n) 26) := ⟨_, rfl⟩
      obtain ⟨h, hh⟩ : ∃ h, h = W.heap.size := ⟨_, rfl⟩
      obtain ⟨W4, hW4⟩ : ∃ W4, W4 = V3.setCells h 0 (flat dk) := ⟨_, rfl⟩
      obtain ⟨e1, e2, e3, e4⟩ := SR.fresh (w := W) (d := dk) (Z := zc n) (t := 26) (by rw [zc_size, hdk]) hok hh
      rw [← hV3, ← hW4] at e1 e2 e4
      rw [← hV3, hdk] at e3
      have hb3 : Below W.heap.size W V3 := by rw [hV3]; exact (Below.refl _ _).alloc (Nat.le_refl _) _
      have c2 := fun ty => copy_ids V3 ty h n n n ⟨g, 0, none⟩ (flat dk) hfl (flat_src ((hSW.ro hgW).below hb3)) e3 (flat_one dk)
      rw [← hW4] at c2
      have HT := hide (tail_any g h n dk w W4 hdk hn (hbW.trans (e2.mono hbW.size)) (by omega) (by omega) (by have := e2.size; omega) ((hSW.below hgW e2).self) (e1.ro e4))
      simp only [goInt] at c2
      have HV2 := hide (And.intro hV3 hh)
      clear hok hfl hSW hbW e1 e2 e3 e4 hb3 hV3 hh hW4 HD HS HK
      go_upto_region 14 with fail
      rw [← HV2.out.1, ← HV2.out.2]
      go_wp2_with (first
        | (go_at_call 5; refine HT.out.mono ?_; rintro e W5 ⟨r, rfl, hs5⟩; have HC := hide hs5; clear hs5)
        | (go_at_call 6; refine HC.out.mono ?_; rintro e W6 ⟨rfl, hs6⟩; have HB6 := hide hs6; clear hs6))
      go_ret
      exact ⟨rfl, HB6.out⟩
theorem few_nil (w : World) : Calls Yba.prog 3 #[.slice none 0 0] w fun e w' => e = .returned (.bool true) ∧ Below w.heap.size w w' := by
  have mk := mk_none
  have cp := copy_nil
  have hb1 : Below w.heap.size w (w.alloc (.cells (zc 0) 26)) := (Below.refl _ _).alloc (Nat.le_refl _) _
  have HB := hide hb1
  clear hb1
  go_enter Yba.func3, Yba.ntmps3
  go_wp2_with fail
  refine wp_loop_rounds 1 ?_
  rw [rounds_succ]
  go_wp2_with (first
    | (go_at_call 5; refine (sortids_nil _).mono ?_; rintro e W5 ⟨rfl, rfl⟩)
    | (go_at_call 6; refine (check_nil _ _).mono ?_; rintro e W6 ⟨rfl, rfl⟩))
  go_ret
  exact ⟨rfl, HB.out⟩
theorem few_big (a : Option Addr) (n cap : Nat) (w : World) (h : 1024 < n) : Calls Yba.prog 3 #[.slice a n cap] w fun e w' => e = .returned (.bool true) ∧ Below w.heap.size w w' := by
  have z : (1024 : Int) < n := by omega
  go_enter Yba.func3, Yba.ntmps3
  go_wp2
  go_ret
  exact ⟨rfl, Below.refl _ _⟩
end Go.Proofs.Ybulkcgfi
