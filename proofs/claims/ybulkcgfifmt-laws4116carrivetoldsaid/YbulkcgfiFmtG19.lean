import Derived.Test.YbulkcgfiFmtG18
namespace Go.Proofs.YbulkcgfiFmt
open Go.RowKit Go.Extern.Stop Go.Stop Go.Extern
set_option linter.unusedVariables false
set_option linter.unusedSimpArgs false
theorem neqnil0 (w : World) : (binOp .neq 23 (.slice none 0 0) (.slice none 0 0)).run Ybaf.prog w = .ok (.bool false) w := by
  simp [go_sem, Ybaf.underlying23]
set_option maxRecDepth 100000 in
set_option maxHeartbeats 1000000 in
/-- messageReader.readBytes, the bytes thrown away -/
theorem rskip {en : Prop} {T : Nat → Prop} {b k : Nat} {E : Nat → Nat} {St Sw : World → Nat → Prop} (R : Rdr en T b k E St Sw) (n o : Nat) (what : ByteArray) (w : World) (hok : o + n ≤ k) (hs : St w o) :
    Calls Ybaf.prog 15 #[.pointer (some ⟨b, 0, none⟩), .int .i64 n, .slice none 0 0, .string what] w fun e w' => e = .returned .nilIface ∧ St w' (o + n) ∧ Fk T b w w' := by
  have HR := hide R
  have HS := hide hs
  clear R hs
  have nn := neqnil0
  go_enter Ybaf.func15, Ybaf.ntmps15
  obtain ⟨base, off, q1, q2, q3, q4⟩ := HR.out.off _ _ HS.out
  have hbig := HR.out.big
  have hbl0 := HR.out.lt _ _ HS.out
  go_wp2_with (first | (go_at_call 8; refine (offset_any b base off _ q1 q2 (by omega) (by omega)).mono ?_; rintro e w1 ⟨rfl, hb1⟩))
  rw [show ((base : Int) + (off : Int)) = (o : Int) by omega]
  go_loopw [1, 2] (fun nv pv wr => ∃ r : Nat, r ≤ n ∧ nv = .int .i64 ((n : Int) - r) ∧ pv = .slice none 0 0 ∧ St wr (o + r) ∧ Fk T b w wr) (fun nv _ _ => (intOf nv).toNat)
  case atStart => exact ⟨0, Nat.zero_le _, by simp, rfl, HR.out.below _ _ _ HS.out hb1, Fk.of_below hb1 hbl0⟩
  case round =>
    clear HS
    obtain ⟨r, hr, rfl, rfl, hst, hfk⟩ := hrel
    have HST := hide (And.intro hst hfk)
    clear hst hfk
    by_cases hrn : r < n
    · have hpos : (0 : Int) < (n : Int) - r := by omega
      go_wp2_with fail
      refine (HR.out.has _ _ HST.out.1 (by omega)).mono ?_
      rintro e w1 ⟨rfl, hst1, hfk1, mb, mo, len, cap, off, base, hav⟩
      have a0 := hav.c0
      have a2 := hav.c2
      have f2 := hav.f2
      have hlt := hav.lt
      have hcap := hav.cap
      have hle2 := hav.le
      have HA := hide hav
      have H1 := hide (And.intro hst1 hfk1)
      clear hav hst1 hfk1
      obtain ⟨rd, hrd⟩ : ∃ rd : Nat, rd = min (n - r) (len - off) := ⟨_, rfl⟩
      go_wp2
      go_quiet (fail)
      go_upto_region 9 with fail
      have hrdv : (if (len : Int) - off < (n : Int) - r then (len : Int) - off else (n : Int) - r) = (rd : Int) := by rw [hrd]; split <;> omega
      rw [hrdv]
      clear hrdv
      have hrd0 : 0 < rd := by omega
      have hrd1 : r + rd ≤ n := by omega
      have hrd2 : off + rd ≤ len := by omega
      have hwn := wrap_in ((off : Int) + rd) (by omega) (by omega)
      have hwm := wrap_in ((n : Int) - r - rd) (by omega) (by omega)
      have hst2 := HR.out.adv _ _ _ _ _ _ rd (HR.out.beloww _ _ _ H1.out.1 (bdrewN (n := nq) (Below.refl _ _))) HA.out.drewN.c0 HA.out.drewN.c2 hrd2 hrd0
      have HS2 : Hid (St ((w1.drewN nq).setCell ⟨b, 2, none⟩ (.int .i64 ((off : Int) + rd))) (o + (r + rd))) := ⟨by rw [show o + (r + rd) = o + r + rd by omega]; exact hst2⟩
      have hbl := HR.out.ltw _ _ H1.out.1
      clear hst2 hrd
      go_wp2
      go_roundw
      case rel => exact ⟨r + rd, hrd1, by go_num, rfl, HS2.out, (HST.out.2.trans H1.out.2).trans ((Fk.of_below (bdrewN (n := nq) (Below.refl _ _)) hbl).trans (Fk.set 2 (by omega) _))⟩
      case measure => simp [intOf]; omega
    · obtain rfl : n = r := by omega
      go_wp2
      go_ret
      exact ⟨rfl, HST.out.1, HST.out.2⟩
set_option maxRecDepth 100000 in
set_option maxHeartbeats 400000 in
/-- messageReader.readIDs, of a message that arrives -/
theorem rids {en : Prop} {T : Nat → Prop} {b k : Nat} {E : Nat → Nat} {St Sw : World → Nat → Prop} (R : Rdr en T b k E St Sw) (n o : Nat) (sa : Addr) (w : World) (hok : o + n ≤ k) (c3 : w.cell? ⟨b, 3, none⟩ = some (.pointer (some sa))) (hs : St w o) :
    Calls Ybaf.prog 19 #[.pointer (some ⟨b, 0, none⟩), .int .i64 n] w fun e w' => e = .returned (.tuple #[.slice none 0 0, .nilIface]) ∧ St w' (o + n) ∧ Fk T b w w' := by
  have HC := hide (rskip R n o ⟨#[73, 68, 32, 108, 105, 115, 116]⟩ w hok hs)
  clear R hs
  go_enter Ybaf.func19, Ybaf.ntmps19
  go_wp2_with fail
  refine HC.out.mono ?_
  rintro e w1 ⟨rfl, h1, h2⟩
  go_wp2
  go_ret2
  exact ⟨rfl, h1, h2⟩
end Go.Proofs.YbulkcgfiFmt
