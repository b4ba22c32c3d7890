import Derived.Test.YbulkcgfiFmtG17
namespace Go.Proofs.YbulkcgfiFmt
open Go.RowKit Go.Extern.Stop Go.Stop Go.Extern
set_option linter.unusedVariables false
set_option linter.unusedSimpArgs false
section
variable {w0 : World} {b sb cb pb eb kb mb n cap c : Nat} {E : Nat → Nat} {a0 : Addr} {w w' : World} {o K base len cap1 off : Nat} {ma : Option Addr}
theorem AS.kbound (h : AS w0 b sb cb pb eb kb mb n cap c E a0 w o K base len cap1 off ma) (hn : n ≤ 100000) (hc1 : 1 ≤ c) : K ≤ 1000000 := by
  have h1 := h.ln
  rcases h.kk with ⟨h1, _⟩ | ⟨_, h2, _⟩
  · omega
  · have := Nat.le_mul_of_pos_right (K - 1) (show 0 < c by omega)
    omega
set_option maxRecDepth 100000 in
set_option maxHeartbeats 400000 in
theorem more_bring (ap : Ap b sb cb pb eb kb mb) (h : AS w0 b sb cb pb eb kb mb n cap c E a0 w o K base len cap1 off ma) (hcap : n ≤ cap) (hc1 : 1 ≤ c) (hc7 : c ≤ 7) (hn1 : n ≤ 100000) (ho : off = len) (hn : base + len < n) :
    Calls Ybaf.prog 22 #[.pointer (some ⟨b, 0, none⟩)] w fun en w' => en = .returned (.tuple #[.bool true, .nilIface]) ∧ Fk (AT sb cb pb eb kb mb) b w w' ∧ ∃ len', 0 < len' ∧ AS w0 b sb cb pb eb kb mb n cap c E a0 w' o (K + 1) (base + len) len' (cap - (base + len)) 0 (some ⟨mb, base + len, none⟩) := by
  have c0 := h.c0
  have c2 := h.c2
  have hK := h.kbound hn1 hc1
  have hbl := h.lt.1
  have hll : ¬ (off : Int) < len := by omega
  have H := hide h
  have HAP := hide ap
  have HO := hide ho
  obtain ⟨e, he⟩ : ∃ e, e = min (base + len + c) n := ⟨_, rfl⟩
  have HE := hide he
  have hm4 : 0 < e - (base + len) := by omega
  clear h ap ho he
  go_enter Ybaf.func22, Ybaf.ntmps22
  go_wp2
  go_quiet (fail)
  go_wp2_with fail
  have h2 := H.out.below (bdrewN (n := nq) (Below.refl _ _))
  refine (bring_yes b sb cb pb eb kb mb n cap K (base + len) c e base len cap1 off ma a0 (w.drewN nq) HAP.out h2.ar hn hn1 hcap hc7 hK HE.out h2.c0 h2.c1 h2.c2 h2.c3 h2.fz (by omega)).mono ?_
  rintro en w1 ⟨rfl, nq2, hw1⟩
  have HR := hide (h2.bring HAP.out hcap hc1 HO.out hn e nq2 HE.out)
  rw [← hw1] at HR
  clear hw1 h2
  go_wp2
  go_ret2
  exact ⟨rfl, (Fk.of_below (bdrewN (n := nq) (Below.refl _ _)) hbl).trans HR.out.2, e - (base + len), hm4, HR.out.1⟩
theorem AS.av (h : AS w0 b sb cb pb eb kb mb n cap c E a0 w o K base len cap1 off ma) (hl : off < len) : Av w b n E o mb base len cap1 off base :=
  ⟨by rw [h.c0, h.ma (by omega)], h.c1, h.c2, h.fz 2, h.at_, hl, h.ln, h.lc, fun i hi => h.byte (base + i) (by have := h.ln; omega)⟩
theorem arr_rdr (ap : Ap b sb cb pb eb kb mb) (hcap : n ≤ cap) (hc1 : 1 ≤ c) (hc7 : c ≤ 7) (hn1 : n ≤ 100000) : Rdr False (AT sb cb pb eb kb mb) b n E (ASt w0 b sb cb pb eb kb mb n cap c E a0) (ASw w0 b sb cb pb eb kb mb n cap c E a0) where
  big := hn1
  lt := fun w o h => by obtain ⟨_, _, _, _, _, _, h, _⟩ := h; exact h.lt.1
  ltw := fun w o h => by obtain ⟨_, _, _, _, _, _, h⟩ := h; exact h.lt.1
  has := fun w o h hok => by
    obtain ⟨K, base, len, cap1, off, ma, hA, _⟩ := h
    have ha := hA.at_
    have hol := hA.ol
    by_cases hl : off < len
    · refine (more_yes b ma len cap1 off w hA.c0 hA.c2 hl).mono ?_
      rintro e w' ⟨rfl, hb⟩
      have h' := hA.below hb
      exact ⟨rfl, ⟨K, base, len, cap1, off, ma, h'⟩, Fk.of_below hb hA.lt.1, mb, base, len, cap1, off, base, h'.av hl⟩
    · refine (more_bring ap hA hcap hc1 hc7 hn1 (by omega) (by omega)).mono ?_
      rintro e w' ⟨rfl, hfk, len', hl', h'⟩
      exact ⟨rfl, ⟨_, _, _, _, _, _, h'⟩, hfk, mb, base + len, len', cap - (base + len), 0, base + len, h'.av hl'⟩
  ends := fun h => h.elim
  adv := fun w o a len' cap' off' r h e0 e2 hr hr0 => by
    obtain ⟨K, base, len, cap1, off, ma, hA⟩ := h
    rw [hA.c0] at e0
    injection e0 with e0
    injection e0 with _ e0 _
    subst e0
    rw [hA.c2] at e2
    injection e2 with e2
    injection e2 with _ e2
    have e2 : off = off' := by omega
    subst e2
    exact ⟨K, base, len, cap1, off + r, ma, hA.adv ap r hr, Or.inr (by omega)⟩
  off := fun w o h => by
    obtain ⟨K, base, len, cap1, off, ma, hA, _⟩ := h
    exact ⟨base, off, hA.c1, hA.c2, hA.at_, by have := hA.at_; have := hA.ol; have := hA.ln; omega⟩
  below := fun w w' o h hb => by
    obtain ⟨K, base, len, cap1, off, ma, hA, hs⟩ := h
    exact ⟨K, base, len, cap1, off, ma, hA.below hb, hs⟩
  beloww := fun w w' o h hb => by
    obtain ⟨K, base, len, cap1, off, ma, hA⟩ := h
    exact ⟨K, base, len, cap1, off, ma, hA.below hb⟩
  other := fun w o g j v h hT hg => by
    obtain ⟨K, base, len, cap1, off, ma, hA, hs⟩ := h
    exact ⟨K, base, len, cap1, off, ma, hA.other g j v hT hg, hs⟩
  otherw := fun w o g j v h hT hg => by
    obtain ⟨K, base, len, cap1, off, ma, hA⟩ := h
    exact ⟨K, base, len, cap1, off, ma, hA.other g j v hT hg⟩
/-- How many chunks were pulled. -/
theorem AS.calls (h : AS w0 b sb cb pb eb kb mb n cap c E a0 w o K base len cap1 off ma) (hc1 : 1 ≤ c) (hs : K = 0 ∨ 0 < off) : (o + c - 1) / c = K := by
  have ha := h.at_
  have hol := h.ol
  rcases h.kk with ⟨h1, h2, h3⟩ | ⟨h1, h2, h3, h4, _⟩
  · subst h1
    exact Nat.div_eq_of_lt (by omega)
  · obtain ⟨K', rfl⟩ : ∃ K', K = K' + 1 := ⟨K - 1, by omega⟩
    rw [Nat.add_sub_cancel] at h2
    refine Nat.div_eq_of_lt_le ?_ ?_
    · rw [Nat.add_mul, Nat.one_mul]; omega
    · rw [Nat.add_mul, Nat.add_mul, Nat.one_mul]; omega
set_option maxRecDepth 100000 in
set_option maxHeartbeats 400000 in
theorem room_arr (h : AS w0 b sb cb pb eb kb mb n cap c E a0 w o K base len cap1 off ma) (hn1 : n ≤ 100000) :
    Calls Ybaf.prog 16 #[.pointer (some ⟨b, 0, none⟩)] w fun e w' => e = .returned (.int .i64 ((1048576 - o : Nat) : Int)) ∧ Below w.heap.size w w' := by
  have ha := h.at_
  have hol := h.ol
  have hln := h.ln
  have hs : ((1048576 - o : Nat) : Int) = 1048576 - ((base : Int) + off) := by omega
  rw [hs]
  clear hs
  have c1 := h.c1
  have c2 := h.c2
  have c3 := h.c3
  have s1 := h.ar.s1
  have hw := wrap_in (1048576 - ((base : Int) + off)) (by omega) (by omega)
  obtain ⟨l1, l2, _⟩ := h.lt
  have hcall : Calls Ybaf.prog 8 #[.pointer (some ⟨b, 0, none⟩)] w.drew fun e w' => e = .returned (.int .i64 ((base : Int) + off)) ∧ Below w.heap.size w w' ∧ w'.cell? ⟨b, 3, none⟩ = some (.pointer (some ⟨sb, 0, none⟩)) ∧ w'.cell? ⟨sb, 1, none⟩ = some (.int .i64 1048576) := (offset_any b base off w.drew c1 c2 (by omega) (by omega)).mono (by
    rintro e w' ⟨rfl, hb⟩
    have hb' : Below w.heap.size w w' := (Below.refl _ _).drew.trans hb
    exact ⟨rfl, hb', by rw [hb'.cell (by exact l1)]; exact c3, by rw [hb'.cell (by exact l2)]; exact s1⟩)
  clear h
  go_enter Ybaf.func16, Ybaf.ntmps16
  go_wp2_with fail
  go_region_with (go_at_call 8; refine hcall.mono ?_; rintro e w1 ⟨rfl, hb, d3, d1⟩)
  all_goals
    clear hcall
    go_wp2
    go_ret
    exact ⟨rfl, hb⟩
end
end Go.Proofs.YbulkcgfiFmt
