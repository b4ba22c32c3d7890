import Derived.Test.YbulkcgegB1
namespace Go.Proofs.Ybulkcgeg
open Go.RowKit
set_option linter.unusedVariables false
set_option linter.unusedSimpArgs false
set_option maxRecDepth 100000 in
set_option maxHeartbeats 2000000 in
theorem spill_s3 (a : Option Addr) (b off len cap : Nat) (its : Nat → Item) (hd pk sa sb ex : Int) (w : World) (hlen : len ≤ 4096) (hpos : 0 < len) (ha : 0 < len → a = some ⟨b, off, none⟩) (hit : ItemsAt w b off len its)
    (s0 : 0 ≤ sa) (s1 : sa ≤ 18446744073709551615) (hh0 : 0 ≤ hd) (hh1 : hd ≤ 65535) (hp0 : 0 ≤ pk) (hp1 : pk ≤ 65535) (x0 : -9223372036854775808 ≤ ex) (x1 : ex ≤ 9223372036854775807) :
    Calls Yba.prog 4 #[.slice a len cap, .int .u16 hd, .int .u16 pk, .bool false, .int .u64 sa, .bool true, .int .i64 sb, .int .i64 ex] w fun e w' => e = .returned (.bool true) ∧ Below w.heap.size w w' := by
  obtain rfl := ha hpos
  clear ha
  obtain ⟨hdn, hdv, hdl⟩ := hd_nat hd len hh0
  obtain ⟨ix, hix, hil⟩ := pk_nat pk len hp0 hpos
  have hmm := @run_makeMap Yba.prog
  have nn := nnil28
  have nm := eqnil28
  have n24 := eqnil24
  have n36 := eqnil36
  go_enter Yba.func4, Yba.ntmps4
  go_wp2_with (go_at_call 5; refine (heap_any _ b off len cap ((len + 1023) / 1024) its _ hlen (by omega) (by omega) (fun _ => rfl) hit).mono ?_; rintro e w1 ⟨rfl, ⟨f, hf, hof⟩, hsz, hb⟩)
  have HH := hide (And.intro hf hof)
  clear hf hof
  refine (qdrop_same (w1.heap.size + 1 + 1 + 1 + 1 + 1) (w1.heap.size + 1 + 1) len hdn sa sb ex (.slice (some ⟨w.heap.size + 1, 0, none⟩) ((len + 1023) / 1024) ((len + 1023) / 1024)) (.slice (some ⟨w1.heap.size + 1, 0, none⟩) 1 1) (.slice none 0 0) (f ix) _ hlen hdl (by simp [World.cell?_alloc_at]) (by simp [World.cell?_alloc_at]) (by simp [World.cell?_alloc_at]) (by simp [World.cell?_alloc_at]) (by simp [World.cell?_alloc_at]) (by simp [World.cell?_alloc_at]) (by simp [World.cell?_alloc_at]) (by simp [World.cell?_alloc_at]) (by simp [World.cell?_alloc_at]) (by simp [World.cell?_alloc_at]) (by simp [World.cell?_alloc_at]) (by simp [World.cell?_alloc_at]) (by simp [World.cell?_alloc_at]) (by simp [World.cell?_alloc_at]) (fun j => by simp [World.frozen?_alloc_at]) (fun w3 hb3 => by
      obtain ⟨hf, hof⟩ := HH.out
      have hbW : Below w1.heap.size w1 w3 := Below.trans (by repeat (first | exact Below.refl _ _ | refine Below.alloc ?_ (by simp +arith) _)) (hb3.mono (by simp +arith))
      refine (front_yes (w1.heap.size + 1 + 1 + 1 + 1 + 1) 4 (w1.heap.size + 1) (w.heap.size + 1) (w.heap.size + 2) ((len + 1023) / 1024) ix (f ix) w3 (cell_later hb3 (by simp [World.cell?_alloc_at])) (cell_later hb3 (by simp +arith [World.cell?_alloc_at, World.cell?_alloc_past])) (by omega) (by omega) (cell_later hb3 (by simp [World.cell?_alloc_at])) (fun c h' => cell_later hbW (hf.tab c h')) (cell_later hb3 (by simp [World.cell?_alloc_at])) ((hf.at_ ix (by omega)).below hbW)).mono ?_
      rintro e w4 ⟨rfl, h4⟩
      exact ⟨_, rfl, h4⟩)).mono ?_
  rintro e w2 ⟨rfl, hb2, d1, d4, d5, d6, d10, d11, d12, d14, d15, d16⟩
  have HB := hide (below_of' hb (by repeat (first | exact Below.refl _ _ | refine Below.alloc ?_ (by simp +arith) _)) hb2 (by omega))
  have hsz2 : w1.heap.size + 1 + 1 + 1 + 1 + 1 < w2.heap.size := World.block_lt_of_cell? _ _ d1
  have hsz3 : w1.heap.size + 1 + 1 + 1 + 1 + 1 < w2.heap.size + 1 := by omega
  have hsz4 : w1.heap.size + 1 + 1 + 1 + 1 + 1 < w2.heap.size + 1 + 1 := by omega
  have hl : b < w.heap.size := hit.lt hpos
  have g1 : b < w2.heap.size := by have := HB.out.size; omega
  have g2 : b < w2.heap.size + 1 := by omega
  have i0 : w2.cell? ⟨b, off + ix * 4, none⟩ = some (.int .i64 (its ix).due) := (HB.out.cell (by exact hl)).trans (hit.c0 ix hil)
  have i1 : w2.cell? ⟨b, off + ix * 4 + 1, none⟩ = some (.int .u64 (its ix).seq) := (HB.out.cell (by exact hl)).trans (hit.c1 ix hil)
  have i2 : w2.cell? ⟨b, off + ix * 4 + 2, none⟩ = some (.int .u8 (its ix).mem) := (HB.out.cell (by exact hl)).trans (hit.c2 ix hil)
  have i3 : w2.cell? ⟨b, off + ix * 4 + 3, none⟩ = some (.int .u8 (its ix).parts) := (HB.out.cell (by exact hl)).trans (hit.c3 ix hil)
  have iok := hit.ok ix hil
  have hil' : (ix : Int) < len := by omega
  have his := HH.out.2 ix hil
  have HI := hide (And.intro iok his)
  clear hb2 hmm hit hb iok his
  go_wp2_with fail
  obtain ⟨W3, hW3⟩ : ∃ W3, W3 = (w2.alloc (Obj.cells #[Value.string (f ix).id, Value.int IntKind.i64 (f ix).due, Value.int IntKind.u64 (f ix).seq, Value.slice (f ix).pa (f ix).pn (f ix).pn, Value.slice (f ix).ma (f ix).mn (f ix).mn] 55)) := ⟨_, rfl⟩
  have old : ∀ b o, b < w2.heap.size → W3.cell? ⟨b, o, none⟩ = w2.cell? ⟨b, o, none⟩ := fun b o h => by rw [hW3, World.cell?_alloc_past _ _ _ h]
  rw [← old _ _ g1] at i0
  rw [← old _ _ g1] at i1
  rw [← old _ _ g1] at i2
  rw [← old _ _ g1] at i3
  rw [← old _ _ hsz2] at d1
  rw [← old _ _ hsz2] at d4
  rw [← old _ _ hsz2] at d5
  rw [← old _ _ hsz2] at d6
  rw [← old _ _ hsz2] at d10
  rw [← old _ _ hsz2] at d11
  rw [← old _ _ hsz2] at d12
  rw [← old _ _ hsz2] at d14
  rw [← old _ _ hsz2] at d15
  rw [← old _ _ hsz2] at d16
  have k0 : W3.cell? ⟨w2.heap.size, 0, none⟩ = some (.string (f ix).id) := by rw [hW3]; simp
  have k1 : W3.cell? ⟨w2.heap.size, 1, none⟩ = some (.int .i64 (f ix).due) := by rw [hW3]; simp
  have k2 : W3.cell? ⟨w2.heap.size, 2, none⟩ = some (.int .u64 (f ix).seq) := by rw [hW3]; simp
  have k3 : W3.cell? ⟨w2.heap.size, 3, none⟩ = some (.slice (f ix).pa (f ix).pn (f ix).pn) := by rw [hW3]; simp
  have k4 : W3.cell? ⟨w2.heap.size, 4, none⟩ = some (.slice (f ix).ma (f ix).mn (f ix).mn) := by rw [hW3]; simp
  have hs3 : w2.heap.size < W3.heap.size := by rw [hW3]; simp
  have hs4 : b < W3.heap.size := by omega
  have hs5 : w1.heap.size + 1 + 1 + 1 + 1 + 1 < W3.heap.size := by omega
  have HB3 : Hid (Below w.heap.size w W3) := by rw [hW3]; exact HB.out.alloc HB.out.size _
  rw [← hW3]
  clear hW3 old
  go_region_held3 (fun w' => w'.cell? ⟨b, off + ix * 4, none⟩ = some (.int .i64 (its ix).due) ∧ w'.cell? ⟨b, off + ix * 4 + 1, none⟩ = some (.int .u64 (its ix).seq) ∧ w'.cell? ⟨b, off + ix * 4 + 2, none⟩ = some (.int .u8 (its ix).mem) ∧ w'.cell? ⟨b, off + ix * 4 + 3, none⟩ = some (.int .u8 (its ix).parts) ∧ w'.cell? ⟨w2.heap.size, 0, none⟩ = some (.string (f ix).id) ∧ w'.cell? ⟨w2.heap.size, 1, none⟩ = some (.int .i64 (f ix).due) ∧ w'.cell? ⟨w2.heap.size, 2, none⟩ = some (.int .u64 (f ix).seq) ∧ w'.cell? ⟨w2.heap.size, 3, none⟩ = some (.slice (f ix).pa (f ix).pn (f ix).pn) ∧ w'.cell? ⟨w2.heap.size, 4, none⟩ = some (.slice (f ix).ma (f ix).mn (f ix).mn)) (go_keep)
    (first | (go_at_call 11; refine (is_yes (f ix) ix (its ix) _ (by omega) HI.out.1 HI.out.2).mono ?_; rintro e w3 ⟨rfl, hb3⟩; obtain ⟨hc1, hc2⟩ := bcellD hb3))
  have HB4 := hide (HB3.out.drew.trans (hb3.mono (by exact HB3.out.size)))
  all_goals go_wp2
  go_ret
  exact ⟨by simp, HB4.out⟩
end Go.Proofs.Ybulkcgeg
