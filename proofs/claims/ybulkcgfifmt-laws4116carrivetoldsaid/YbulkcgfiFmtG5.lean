import Derived.Test.YbulkcgfiFmtG4
namespace Go.Proofs.YbulkcgfiFmt
open Go.RowKit Go.Extern.Stop Go.Stop Go.Extern
set_option linter.unusedVariables false
set_option linter.unusedSimpArgs false
theorem Ybaf.size5 : (Ybaf.prog.info? 5).map (·.size) = some 1 := by kernel_rfl
theorem copy_run (W : World) (g go r n pc mb mo off rd cap o len : Nat) (E : Nat → Nat) (k b base : Nat) (w0 : World) (hgb : GB w0 W g go n r E o) (hfr : ∀ j, j < n → w0.frozen? ⟨g, go + j, none⟩ = false) (hav : Av W b k E (o + r) mb mo len cap off base) (hrd1 : r + rd ≤ n) (hrd2 : off + rd ≤ len) :
    (Builtin.copy_ #[23, 23] 3 #[.slice (some ⟨g, go + r, none⟩) (n - r) (pc - r), .slice (some ⟨mb, mo + off, none⟩) rd (cap - off)]).run Ybaf.prog W = .ok (.int .i64 rd) (W.setCells g (go + r) (eB E (o + r) rd)) := by
  have := run_copy_cells (P := Ybaf.prog) W 23 23 3 5 g (go + r) (n - r) (pc - r) ⟨mb, mo + off, none⟩ rd (cap - off) (eB E (o + r) rd) Ybaf.underlying23 Ybaf.size5 (by rw [eB_len]; exact (Nat.min_eq_left (by omega)).symm) (fun j v hj => ?_) (fun j hj => ?_) (fun j hj => ?_) (fun v hv => ?_)
  · rw [eB_len] at this; exact this
  · obtain ⟨h1, rfl⟩ := eB_get hj
    have := hav.byte (off + j) (by omega)
    rw [show base + (off + j) = o + r + j by have := hav.at_; omega, show mo + (off + j) = mo + off + j by omega] at this
    rw [show (⟨mb, mo + off, none⟩ : Addr).add j = ⟨mb, mo + off + j, none⟩ by unfold Addr.add; split <;> simp_all]
    exact this
  · rw [eB_len] at hj
    have := hgb.rest (r + j) (by omega)
    rwa [show go + (r + j) = go + r + j by omega] at this
  · rw [eB_len] at hj
    have := hfr (r + j) (by omega)
    rw [hgb.frz]
    rwa [show go + (r + j) = go + r + j by omega] at this
  · unfold eB at hv
    obtain ⟨i, _, rfl⟩ := List.mem_map.1 hv
    rfl
set_option maxRecDepth 100000 in
set_option maxHeartbeats 1000000 in
/-- messageReader.readBytes into a piece of block g -/
theorem rbytes {en : Prop} {T : Nat → Prop} {b k : Nat} {E : Nat → Nat} {St Sw : World → Nat → Prop} (R : Rdr en T b k E St Sw) (F : Interp) (g go n pc o : Nat) (what : ByteArray) (w : World) (hen : k < o + n → en) (hF : F.answers w.tape) (hok : o ≤ k) (hnp : n ≤ pc) (hpc : pc ≤ 1000000) (hg : ¬ T g) (hgb : g ≠ b) (hcel : ∀ j, j < n → (w.cell? ⟨g, go + j, none⟩).isSome = true) (hfr : ∀ j, j < n → w.frozen? ⟨g, go + j, none⟩ = false) (hgl : g < w.heap.size) (hs : St w o) :
    Calls Ybaf.prog 15 #[.pointer (some ⟨b, 0, none⟩), .int .i64 n, .slice (some ⟨g, go, none⟩) n pc, .string what] w fun e w' =>
      (o + n ≤ k ∧ e = .returned .nilIface ∧ St w' (o + n) ∧ Fk (fun x => T x ∨ x = g) b w w' ∧ GB w w' g go n n E o) ∨ (k < o + n ∧ ∃ pb r, e = .returned (.iface 46 (.pointer (some ⟨pb, 0, none⟩))) ∧ w'.cell? ⟨pb, 0, none⟩ = some (.int .i64 o) ∧ St w' k ∧ Fk (fun x => T x ∨ x = g) b w w' ∧ GB w w' g go n r E o) := by
  have hG0 : Hid (GB w w g go n 0 E o) := ⟨hgl, fun j hj => by omega, hcel, fun _ _ => rfl, fun _ => rfl⟩
  have HFR := hide hfr
  have HR := hide R
  have HS := hide hs
  have HF := hide hF
  have HEN := hide hen
  clear R hs hcel hfr hF hen
  have nn := neqnil
  go_enter Ybaf.func15, Ybaf.ntmps15
  obtain ⟨base, off, q1, q2, q3, q4⟩ := HR.out.off _ _ HS.out
  have hbig := HR.out.big
  have hbl0 := HR.out.lt _ _ HS.out
  go_wp2_with (first | (go_at_call 8; refine (offset_any b base off _ q1 q2 (by omega) (by omega)).mono ?_; rintro e w1 ⟨rfl, hb1⟩))
  rw [show ((base : Int) + (off : Int)) = (o : Int) by omega]
  go_loopw [1, 2] (fun nv pv wr => ∃ r : Nat, r ≤ n ∧ o + r ≤ k ∧ nv = .int .i64 ((n : Int) - r) ∧ (r < n → pv = .slice (some ⟨g, go + r, none⟩) (n - r) (pc - r)) ∧ St wr (o + r) ∧ Fk (fun x => T x ∨ x = g) b w wr ∧ GB w wr g go n r E o) (fun nv _ _ => (intOf nv).toNat)
  case atStart => exact ⟨0, Nat.zero_le _, hok, by simp, fun _ => rfl, HR.out.below _ _ _ HS.out hb1, Fk.of_below hb1 hbl0, hG0.out.eq hb1.size (hb1.block g hgl)⟩
  case round =>
    clear hG0 HS
    obtain ⟨r, hr, hrk, rfl, hpv, hst, hfk, hgbk⟩ := hrel
    have hbl := HR.out.lt _ _ hst
    have htp : wr.tape = w.tape := hfk.tape
    have HST := hide (And.intro hst (And.intro hfk (And.intro hgbk htp)))
    clear hst hfk hgbk htp
    by_cases hrn : r < n
    · obtain rfl := hpv hrn
      clear hpv
      have hpos : (0 : Int) < (n : Int) - r := by omega
      by_cases hk : o + r < k
      · go_wp2_with fail
        refine (HR.out.has _ _ HST.out.1 hk).mono ?_
        rintro e w1 ⟨rfl, hst1, hfk1, mb, mo, len, cap, off, base, hav⟩
        have a0 := hav.c0
        have a2 := hav.c2
        have f2 := hav.f2
        have hlt := hav.lt
        have hcap := hav.cap
        have hle2 := hav.le
        have HA := hide hav
        have H1 := hide (And.intro hst1 hfk1)
        clear hav hst1 hfk1
        obtain ⟨rd, hrd⟩ : ∃ rd : Nat, rd = min (n - r) (len - off) := ⟨_, rfl⟩
        go_wp2
        go_quiet (fail)
        go_upto_region 10 with fail
        have hw1 := wrap_in ((len : Int) - off) (by omega) (by omega)
        have hrdv : (if IntKind.i64.wrap ((len : Int) - off) < (n : Int) - r then IntKind.i64.wrap ((len : Int) - off) else (n : Int) - r) = (rd : Int) := by rw [hw1, hrd]; split <;> omega
        rw [hrdv]
        clear hrdv hw1
        obtain ⟨W, hWd⟩ : ∃ W, W = w1.drewN nq := ⟨_, rfl⟩
        rw [← hWd]
        have hrd0 : 0 < rd := by omega
        have hrd1 : r + rd ≤ n := by omega
        have hrd2 : off + rd ≤ len := by omega
        have b0 : W.cell? ⟨b, 0, none⟩ = some (.slice (some ⟨mb, mo, none⟩) len cap) := by rw [hWd]; exact a0
        have b2 : W.cell? ⟨b, 2, none⟩ = some (.int .i64 off) := by rw [hWd]; exact a2
        have hbW : Below w1.heap.size w1 W.drew := by rw [hWd]; exact (bdrewN (Below.refl _ _)).drew
        have HAV : Hid (Av W.drew b k E (o + r) mb mo len cap off base) := by rw [hWd]; exact ⟨HA.out.c0, HA.out.c1, HA.out.c2, HA.out.f2, HA.out.at_, HA.out.lt, HA.out.le, HA.out.cap, HA.out.byte⟩
        have hg1 := HST.out.2.2.1.fk H1.out.2 hg hgb
        have HG2 : Hid (GB w W.drew g go n r E o) := hide (hg1.eq hbW.size (hbW.block g hg1.lt))
        have hcopy1 := copy_run W.drew g go r n pc mb mo off rd cap o len E k b base w HG2.out HFR.out HAV.out hrd1 hrd2
        have HW := hide hbW
        have HG3 := hide (HG2.out.copy hrd1)
        have hst3 := HR.out.others hg hgb _ (eB E (o + r) rd) (go + r) _ (HR.out.beloww _ _ _ H1.out.1 hbW)
        have d2 : (W.drew.setCells g (go + r) (eB E (o + r) rd)).cell? ⟨b, 2, none⟩ = some (.int .i64 off) := by rw [World.cell?_setCells_out _ _ _ _ _ (fun e => absurd e.symm (by exact hgb))]; exact b2
        have d0 : (W.drew.setCells g (go + r) (eB E (o + r) rd)).cell? ⟨b, 0, none⟩ = some (.slice (some ⟨mb, mo, none⟩) len cap) := by rw [World.cell?_setCells_out _ _ _ _ _ (fun e => absurd e.symm (by exact hgb))]; exact b0
        have d3 : (W.drew.setCells g (go + r) (eB E (o + r) rd)).frozen? ⟨b, 2, none⟩ = false := by rw [World.frozen?_setCells]; exact HAV.out.f2
        have HFK : Hid (Fk (fun x => T x ∨ x = g) b w (W.drew.setCells g (go + r) (eB E (o + r) rd))) := ⟨(HST.out.2.1.trans H1.out.2.wide).trans ((Fk.of_below hbW (HR.out.ltw _ _ H1.out.1)).trans (Fk.setCells (Or.inr rfl) hgb _ _))⟩
        have HAV3 : Hid (Av (W.drew.setCells g (go + r) (eB E (o + r) rd)) b k E (o + r) mb mo len cap off base ∨ True) := ⟨Or.inr trivial⟩
        have HST3 := hide hst3
        obtain ⟨W5, hW5⟩ : ∃ W5, W5 = W.drew.setCells g (go + r) (eB E (o + r) rd) := ⟨_, rfl⟩
        rw [← hW5] at hcopy1 d0 d2 d3
        rw [← hW5] at HG3 HFK HST3
        have HW5 := hide hW5
        clear hW5 hWd a0 a2 hrd hg1 hbW hst3 HAV3
        have hok3 : o + (r + rd) ≤ k := by have := HA.out.at_; omega
        have hstN : Hid (St (W5.setCell ⟨b, 2, none⟩ (.int .i64 ((off : Int) + rd))) (o + (r + rd))) := by
          have := HR.out.adv _ _ _ _ _ _ rd HST3.out d0 d2 hrd2 hrd0
          rw [show o + (r + rd) = o + r + rd by omega]
          exact ⟨this⟩
        have hwn := wrap_in ((off : Int) + rd) (by omega) (by omega)
        have hwm := wrap_in ((n : Int) - r - rd) (by omega) (by omega)
        by_cases hcz : pc - r - rd = 0
        · have hnr : r + rd = n := by omega
          go_wp2_with fail
          go_region
          clear hcopy1
          all_goals go_wp2
          go_roundw
          case rel => exact ⟨r + rd, hrd1, hok3, by go_num, fun h => by omega, hstN.out, HFK.out.trans (Fk.set 2 (by omega) _), HG3.out.setB hgb _⟩
          case measure => simp [intOf]; omega
        · go_wp2_with fail
          go_region
          clear hcopy1
          all_goals go_wp2
          go_roundw
          case rel => exact ⟨r + rd, hrd1, hok3, by go_num, fun h => by simp [Nat.sub_sub, Nat.add_assoc], hstN.out, HFK.out.trans (Fk.set 2 (by omega) _), HG3.out.setB hgb _⟩
          case measure => simp [intOf]; omega
      · obtain rfl : k = o + r := by omega
        have hF' := answers_open HF.out
        go_wp2_with fail
        refine (HR.out.ends (HEN.out (by omega)) _ HST.out.1).mono ?_
        rintro e w1 ⟨rfl, hst1, hfk1⟩
        have hF1 := answers_open (show F.answers w1.tape by rw [hfk1.tape, HST.out.2.2.2]; exact HF.out)
        have hbl1 := HR.out.lt _ _ hst1
        have H1 := hide (And.intro hst1 hfk1)
        clear hst1 hfk1
        go_wp2
        go_ret
        have hbb : ∀ o1 o2, Below w1.heap.size w1 ((w1.alloc o1).alloc o2).drew := fun o1 o2 => (((Below.refl _ _).alloc (Nat.le_refl _) o1).alloc (by simp) o2).drew
        refine Or.inr ⟨by omega, w1.heap.size + 1, r, rfl, ?_, HR.out.below _ _ _ H1.out.1 (hbb _ _), (HST.out.2.1.trans H1.out.2.wide).trans (Fk.of_below (hbb _ _) hbl1), ?_⟩
        · show ((w1.alloc _).alloc _).cell? _ = _
          simp
        · have hg1 := HST.out.2.2.1.fk H1.out.2 hg hgb
          exact hg1.eq (hbb _ _).size ((hbb _ _).block g hg1.lt)
    · obtain rfl : n = r := by omega
      go_wp2
      go_ret
      exact Or.inl ⟨hrk, rfl, HST.out.1, HST.out.2.1, HST.out.2.2.1⟩
end Go.Proofs.YbulkcgfiFmt
