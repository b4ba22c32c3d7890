import Derived.Test.YbulkcgfiFmtG5
import Derived.BigQuiet
import Derived.Laws.EntriesVeiled
namespace Go.Proofs.YbulkcgfiFmt
open Go.RowKit Go.Extern.Stop Go.Stop Go.Extern
set_option linter.unusedVariables false
set_option linter.unusedSimpArgs false
set_option maxRecDepth 100000 in
set_option maxHeartbeats 400000 in
/-- LawS4116CArrive$1, a chunk at hand -/
theorem chunk (cb pb eb kb mb n cap K P c e : Nat) (w : World) (h1 : cb ≠ pb) (h2 : cb ≠ eb) (h3 : cb ≠ kb) (h4 : pb ≠ eb) (h5 : pb ≠ kb)
    (hc : w.cell? ⟨cb, 0, none⟩ = some (.int .i64 K)) (hcf : w.frozen? ⟨cb, 0, none⟩ = false) (hp : w.cell? ⟨pb, 0, none⟩ = some (.int .i64 P)) (hpf : w.frozen? ⟨pb, 0, none⟩ = false)
    (he : w.cell? ⟨eb, 0, none⟩ = some (.slice (some ⟨mb, 0, none⟩) n cap)) (hk : w.cell? ⟨kb, 0, none⟩ = some (.int .i64 c)) (hP : P < n) (hn : n ≤ 100000) (hnc : n ≤ cap) (hcc : c ≤ 7) (hK : K ≤ 1000000) (hE : e = min (P + c) n) :
    Calls Ybaf.prog 7 #[.pointer (some ⟨cb, 0, none⟩), .pointer (some ⟨pb, 0, none⟩), .pointer (some ⟨eb, 0, none⟩), .pointer (some ⟨kb, 0, none⟩)] w fun en w' => en = .returned (.tuple #[.slice (some ⟨mb, P, none⟩) (e - P) (cap - P), .nilIface]) ∧ w' = (w.setCell ⟨cb, 0, none⟩ (.int .i64 ((K : Int) + 1))).setCell ⟨pb, 0, none⟩ (.int .i64 e) := by
  have i1 : ¬ (n : Int) ≤ P := by omega
  have w1 := wrap_in ((K : Int) + 1) (by omega) (by omega)
  have w2 := wrap_in ((P : Int) + c) (by omega) (by omega)
  have i2 : (if (n : Int) < (P : Int) + c then (n : Int) else (P : Int) + c) = e := by rw [hE]; split <;> omega
  have i3 : (P : Int) ≤ e := by omega
  have i4 : (e : Int) ≤ cap := by omega
  have hle : P ≤ e ∧ e ≤ n := by omega
  have HE := hide hE
  clear hE
  have i5 : ¬ cap - P = 0 := by omega
  go_enter Ybaf.func7, Ybaf.ntmps7
  go_wp2
  go_ret2
  exact ⟨rfl, rfl⟩
/-- What lies around the reader: the law's own variables, the source, io.EOF. -/
structure Ar (w : World) (sb cb pb eb kb mb n cap K P c : Nat) (a0 : Addr) : Prop where
  hc : w.cell? ⟨cb, 0, none⟩ = some (.int .i64 ((K : Nat) : Int))
  hcf : w.frozen? ⟨cb, 0, none⟩ = false
  hp : w.cell? ⟨pb, 0, none⟩ = some (.int .i64 ((P : Nat) : Int))
  hpf : w.frozen? ⟨pb, 0, none⟩ = false
  he : w.cell? ⟨eb, 0, none⟩ = some (.slice (some ⟨mb, 0, none⟩) n cap)
  hk : w.cell? ⟨kb, 0, none⟩ = some (.int .i64 ((c : Nat) : Int))
  s0 : w.cell? ⟨sb, 0, none⟩ = some (.func (.func 7) #[] #[.pointer (some ⟨cb, 0, none⟩), .pointer (some ⟨pb, 0, none⟩), .pointer (some ⟨eb, 0, none⟩), .pointer (some ⟨kb, 0, none⟩)])
  s1 : w.cell? ⟨sb, 1, none⟩ = some (.int .i64 1048576)
  s2 : w.cell? ⟨sb, 2, none⟩ = some (.bool false)
  s3 : w.cell? ⟨sb, 3, none⟩ = some (.bool false)
  g0 : w.cell? ⟨0, 0, none⟩ = some (.iface 80 (.pointer (some a0)))
theorem Ar.drewN {w : World} {sb cb pb eb kb mb n cap K P c m : Nat} {a0 : Addr} (h : Ar w sb cb pb eb kb mb n cap K P c a0) : Ar (w.drewN m) sb cb pb eb kb mb n cap K P c a0 := ⟨h.hc, h.hcf, h.hp, h.hpf, h.he, h.hk, h.s0, h.s1, h.s2, h.s3, h.g0⟩
/-- The seven blocks are apart. -/
structure Ap (b sb cb pb eb kb mb : Nat) : Prop where
  z : 0 ≠ b ∧ 0 ≠ sb ∧ 0 ≠ cb ∧ 0 ≠ pb ∧ 0 ≠ eb ∧ 0 ≠ kb ∧ 0 ≠ mb
  b : b ≠ sb ∧ b ≠ cb ∧ b ≠ pb ∧ b ≠ eb ∧ b ≠ kb ∧ b ≠ mb
  s : sb ≠ cb ∧ sb ≠ pb
  c : cb ≠ pb ∧ cb ≠ eb ∧ cb ≠ kb ∧ cb ≠ mb
  p : pb ≠ eb ∧ pb ≠ kb ∧ pb ≠ mb
def bumped (w : World) (cb pb K e : Nat) : World := (w.setCell ⟨cb, 0, none⟩ (.int .i64 ((K : Int) + 1))).setCell ⟨pb, 0, none⟩ (.int .i64 ((e : Nat) : Int))
theorem bumped_cell (w : World) (cb pb K e g j : Nat) (h1 : g ≠ cb) (h2 : g ≠ pb) : (bumped w cb pb K e).cell? ⟨g, j, none⟩ = w.cell? ⟨g, j, none⟩ := by
  unfold bumped
  rw [World.cell?_setCell_other _ _ _ _ (by intro e; injection e with e1 _ _; exact h2 e1.symm), World.cell?_setCell_other _ _ _ _ (by intro e; injection e with e1 _ _; exact h1 e1.symm)]
theorem bumped_frozen (w : World) (cb pb K e : Nat) (a : Addr) : (bumped w cb pb K e).frozen? a = w.frozen? a := by unfold bumped; rw [World.frozen?_setCell, World.frozen?_setCell]
theorem Ar.bump {w : World} {b sb cb pb eb kb mb n cap K P c : Nat} {a0 : Addr} (h : Ar w sb cb pb eb kb mb n cap K P c a0) (ap : Ap b sb cb pb eb kb mb) (e : Nat) : Ar (bumped w cb pb K e) sb cb pb eb kb mb n cap (K + 1) e c a0 := by
  have hz := ap.z
  have hs := ap.s
  have hc := ap.c
  have hp := ap.p
  refine ⟨?_, by rw [bumped_frozen]; exact h.hcf, ?_, by rw [bumped_frozen]; exact h.hpf, by rw [bumped_cell _ _ _ _ _ _ _ (by omega) (by omega)]; exact h.he, by rw [bumped_cell _ _ _ _ _ _ _ (by omega) (by omega)]; exact h.hk, by rw [bumped_cell _ _ _ _ _ _ _ (by omega) (by omega)]; exact h.s0, by rw [bumped_cell _ _ _ _ _ _ _ (by omega) (by omega)]; exact h.s1, by rw [bumped_cell _ _ _ _ _ _ _ (by omega) (by omega)]; exact h.s2, by rw [bumped_cell _ _ _ _ _ _ _ (by omega) (by omega)]; exact h.s3, by rw [bumped_cell _ _ _ _ _ _ _ (by omega) (by omega)]; exact h.g0⟩
  · unfold bumped
    rw [World.cell?_setCell_other _ _ _ _ (by intro e; injection e with e1 _ _; omega), World.cell?_setCell_same _ _ _ h.hc]
    rfl
  · unfold bumped
    rw [World.cell?_setCell_same _ _ _ (by rw [World.cell?_setCell_other _ _ _ _ (by intro e; injection e with e1 _ _; omega)]; exact h.hp)]
theorem eq43 (v : Value) (w : World) : (binOp .eql 43 .nilIface (.iface 80 v)).run Ybaf.prog w = .ok (.bool false) w := by kernel_rfl
set_option maxRecDepth 100000 in
set_option maxHeartbeats 400000 in
/-- messageSource.next, a chunk at hand -/
theorem next_yes (b sb cb pb eb kb mb n cap K P c e : Nat) (a0 : Addr) (w : World) (ap : Ap b sb cb pb eb kb mb) (h : Ar w sb cb pb eb kb mb n cap K P c a0) (hP : P < n) (hn : n ≤ 100000) (hnc : n ≤ cap) (hcc : c ≤ 7) (hK : K ≤ 1000000) (hE : e = min (P + c) n) :
    Calls Ybaf.prog 30 #[.pointer (some ⟨sb, 0, none⟩)] w fun en w' => en = .returned (.tuple #[.slice (some ⟨mb, P, none⟩) (e - P) (cap - P), .nilIface]) ∧ ∃ nq, w' = bumped (w.drewN nq) cb pb K e := by
  have s0 := h.s0
  have s2 := h.s2
  have hc := ap.c
  have hp := ap.p
  have hs := ap.s
  have hz := ap.z
  have H := hide h
  have HAP := hide ap
  have HE := hide hE
  clear h hE ap
  go_enter Ybaf.func30, Ybaf.ntmps30
  go_wp2_with fail
  go_quiet (fail)
  go_wp2_with fail
  refine (chunk cb pb eb kb mb n cap K P c e _ (by omega) (by omega) (by omega) (by omega) (by omega) H.out.drewN.hc H.out.drewN.hcf H.out.drewN.hp H.out.drewN.hpf H.out.drewN.he H.out.drewN.hk hP hn hnc hcc hK HE.out).mono ?_
  rintro en w1 ⟨rfl, hw1⟩
  have g0 : w1.cell? ⟨0, 0, none⟩ = some (.iface 80 (.pointer (some a0))) := by rw [hw1]; exact (HAP.out |> H.out.drewN.bump <| e).g0
  have s2' : w1.cell? ⟨sb, 2, none⟩ = some (.bool false) := by rw [hw1]; exact (H.out.drewN.bump HAP.out e).s2
  have HW1 := hide hw1
  have q43 := eq43 (.pointer (some a0)) w1
  clear hw1 s0 s2
  go_wp2
  go_ret2
  exact ⟨rfl, nq, HW1.out⟩
def brought (w : World) (b : Nat) (base : Int) (v : Value) : World := ((w.setCell ⟨b, 1, none⟩ (.int .i64 base)).setCell ⟨b, 0, none⟩ v).setCell ⟨b, 2, none⟩ (.int .i64 0)
set_option maxRecDepth 100000 in
set_option maxHeartbeats 400000 in
/-- messageReader.bring, a chunk at hand -/
theorem bring_yes (b sb cb pb eb kb mb n cap K P c e base len cap1 off : Nat) (ma : Option Addr) (a0 : Addr) (w : World) (ap : Ap b sb cb pb eb kb mb) (h : Ar w sb cb pb eb kb mb n cap K P c a0) (hP : P < n) (hn : n ≤ 100000) (hnc : n ≤ cap) (hcc : c ≤ 7) (hK : K ≤ 1000000) (hE : e = min (P + c) n)
    (c0 : w.cell? ⟨b, 0, none⟩ = some (.slice ma len cap1)) (c1 : w.cell? ⟨b, 1, none⟩ = some (.int .i64 ((base : Nat) : Int))) (c2 : w.cell? ⟨b, 2, none⟩ = some (.int .i64 ((off : Nat) : Int))) (c3 : w.cell? ⟨b, 3, none⟩ = some (.pointer (some ⟨sb, 0, none⟩))) (fz : ∀ j, w.frozen? ⟨b, j, none⟩ = false) (hl : base + len ≤ 100000) :
    Calls Ybaf.prog 27 #[.pointer (some ⟨b, 0, none⟩)] w fun en w' => en = .returned (.tuple #[.bool true, .nilIface]) ∧ ∃ nq, w' = brought (bumped (w.drewN nq) cb pb K e).drew b ((base : Int) + len) (.slice (some ⟨mb, P, none⟩) (e - P) (cap - P)) := by
  have H := hide h
  have HAP := hide ap
  have HE := hide hE
  have hb := ap.b
  clear h hE ap
  go_enter Ybaf.func27, Ybaf.ntmps27
  go_wp2_with fail
  refine (next_yes b sb cb pb eb kb mb n cap K P c e a0 w HAP.out H.out hP hn hnc hcc hK HE.out).mono ?_
  rintro en w1 ⟨rfl, nq, hw1⟩
  have g0 : w1.cell? ⟨0, 0, none⟩ = some (.iface 80 (.pointer (some a0))) := by rw [hw1]; exact (H.out.drewN.bump HAP.out e).g0
  have d0 : w1.cell? ⟨b, 0, none⟩ = some (.slice ma len cap1) := by rw [hw1, bumped_cell _ _ _ _ _ _ _ (by omega) (by omega)]; exact c0
  have d1 : w1.cell? ⟨b, 1, none⟩ = some (.int .i64 ((base : Nat) : Int)) := by rw [hw1, bumped_cell _ _ _ _ _ _ _ (by omega) (by omega)]; exact c1
  have d2 : w1.cell? ⟨b, 2, none⟩ = some (.int .i64 ((off : Nat) : Int)) := by rw [hw1, bumped_cell _ _ _ _ _ _ _ (by omega) (by omega)]; exact c2
  have z0 : w1.frozen? ⟨b, 0, none⟩ = false := by rw [hw1, bumped_frozen]; exact fz 0
  have z1 : w1.frozen? ⟨b, 1, none⟩ = false := by rw [hw1, bumped_frozen]; exact fz 1
  have z2 : w1.frozen? ⟨b, 2, none⟩ = false := by rw [hw1, bumped_frozen]; exact fz 2
  have HW1 := hide hw1
  have q43 := eq43 (.pointer (some a0)) w1
  have hwr := wrap_in ((base : Int) + len) (by omega) (by omega)
  clear hw1 c0 c1 c2 c3 fz
  go_wp2_with fail
  go_region
  go_wp2
  go_ret2
  refine ⟨rfl, nq, ?_⟩
  rw [← HW1.out]
  rfl
end Go.Proofs.YbulkcgfiFmt
