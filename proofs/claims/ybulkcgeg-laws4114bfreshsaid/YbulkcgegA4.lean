import Derived.Test.YbulkcgegA3
import Derived.Deep.RegionHeld3
namespace Go.Proofs.Ybulkcgeg
open Go.RowKit
theorem Tab.done' {w wr : World} {nc k : Nat} {its : Nat → Item} (h : Tab w wr nc k) (e : k = nc) : Heap2 w wr nc 0 its := by subst e; exact h.done
theorem Heap2.fin {w wr : World} {nc k : Nat} {its : Nat → Item} {len : Nat} (h : Heap2 w wr nc k its) (A B : Value) (e : k = len) :
    ((wr.setCell ⟨w.heap.size, 0, none⟩ A).setCell ⟨w.heap.size, 1, none⟩ B).cell? ⟨w.heap.size, 0, none⟩ = some A ∧ ((wr.setCell ⟨w.heap.size, 0, none⟩ A).setCell ⟨w.heap.size, 1, none⟩ B).cell? ⟨w.heap.size, 1, none⟩ = some B ∧
    (∃ f, HeapAt ((wr.setCell ⟨w.heap.size, 0, none⟩ A).setCell ⟨w.heap.size, 1, none⟩ B) (w.heap.size + 1) (w.heap.size + 2) nc f ∧ ∀ i, i < len → (f i).isOf i (its i)) ∧
    w.heap.size + 2 + nc ≤ ((wr.setCell ⟨w.heap.size, 0, none⟩ A).setCell ⟨w.heap.size, 1, none⟩ B).heap.size ∧ Below w.heap.size w ((wr.setCell ⟨w.heap.size, 0, none⟩ A).setCell ⟨w.heap.size, 1, none⟩ B) := by
  obtain ⟨⟨f, hf, hof⟩, hsz, r0, r1, rf, bel⟩ := h
  have oth : ∀ b o, b ≠ w.heap.size → ((wr.setCell ⟨w.heap.size, 0, none⟩ A).setCell ⟨w.heap.size, 1, none⟩ B).cell? ⟨b, o, none⟩ = wr.cell? ⟨b, o, none⟩ := fun b o hb => by
    rw [World.cell?_setCell_other, World.cell?_setCell_other]
    all_goals (intro h'; injection h' with h1 h2 h3; omega)
  refine ⟨?_, ?_, ⟨f, ⟨fun c hc => ?_, fun c o hc => ?_, fun i hi => ?_⟩, fun i hi => hof i (by omega)⟩, by simp; omega, (bel.setCell (by simp) _).setCell (by simp) _⟩
  · rw [World.cell?_setCell_other _ _ _ _ (ne_off (by omega))]; exact World.cell?_setCell_same _ _ _ r0
  · refine World.cell?_setCell_same (u := .int .i64 0) _ _ _ ?_
    rw [World.cell?_setCell_other _ _ _ _ (ne_off (by omega))]; exact r1
  · rw [oth _ _ (by omega)]; exact hf.tab c hc
  · rw [World.frozen?_setCell, World.frozen?_setCell]; exact hf.thaw c o hc
  · exact (hf.at_ i hi).of_eq fun j hj => oth _ _ (by omega)
set_option maxRecDepth 100000 in
set_option maxHeartbeats 1000000 in
theorem heap_any (a : Option Addr) (b off len cap nc : Nat) (its : Nat → Item) (w : World) (hlen : len ≤ 4096) (hn1 : len ≤ nc * 1024) (hn2 : nc * 1024 < len + 1024) (ha : 0 < len → a = some ⟨b, off, none⟩) (hit : ItemsAt w b off len its) :
    Calls Yba.prog 5 #[.slice a len cap] w fun e w' => e = .returned (.agg #[.slice (some ⟨w.heap.size + 1, 0, none⟩) nc nc, .int .i64 len]) ∧ (∃ f, HeapAt w' (w.heap.size + 1) (w.heap.size + 2) nc f ∧ ∀ i, i < len → (f i).isOf i (its i)) ∧ w.heap.size + 2 + nc ≤ w'.heap.size ∧ Below w.heap.size w w' := by
  have hq : ((len : Int) + 1024 - 1) / 1024 = (nc : Int) := by omega
  have hm24 := fun (w : World) => mk24 w nc (by omega)
  have hm67 := mk67
  go_enter Yba.func5, Yba.ntmps5
  go_wp2
  go_loopw [6] (fun i wr => ∃ k : Nat, k ≤ nc ∧ i = .int .i64 k ∧ Tab w wr nc k) (fun i _ => nc - (intOf i).toNat)
  case atStart => exact ⟨0, Nat.zero_le _, rfl, Tab.start w nc⟩
  case round =>
    obtain ⟨k, hk, rfl, htab⟩ := hrel
    have HT := hide htab
    have hsz := htab.sz
    by_cases hlt : k < nc
    · obtain ⟨v, hv⟩ := htab.ex k hlt
      have hv' : ∀ o, (wr.alloc o).cell? ⟨w.heap.size + 1, k, none⟩ = some v := fun o => by rw [World.cell?_alloc_past _ _ _ (by omega)]; exact hv
      have hfk : ∀ o, (wr.alloc o).frozen? ⟨w.heap.size + 1, k, none⟩ = false := fun o => by rw [World.frozen?_alloc_past _ _ _ (by omega)]; exact htab.fz k
      clear htab hv
      go_wp2
      go_roundw
      case rel => exact ⟨k + 1, by omega, by go_num, HT.out.step hlt⟩
      case measure => simp [intOf]; omega
    · have H2 := hide (htab.done' (its := its) (by omega))
      clear htab HT hm24 hm67 hsz
      go_wp2
      go_loopw [7] (fun i wr => ∃ k : Nat, k ≤ len ∧ i = .int .i64 k ∧ Heap2 w wr nc k its) (fun i _ => len - (intOf i).toNat)
      case atStart => exact ⟨0, Nat.zero_le _, rfl, H2.out⟩
      case round =>
        clear H2
        obtain ⟨k, hk, rfl, h2⟩ := hrel
        have H2 := hide h2
        by_cases hlt : k < len
        · obtain ⟨⟨f, hf, hof⟩, hsz, r0, r1, rf, bel⟩ := h2
          have hl := hit.lt (by omega)
          obtain rfl := ha (by omega)
          obtain ⟨q, hq'⟩ : ∃ q, q = k / 1024 := ⟨_, rfl⟩
          obtain ⟨r, hr'⟩ : ∃ r, r = k % 1024 := ⟨_, rfl⟩
          have t0 := hf.tab q (by omega)
          obtain ⟨i0, i1, i2, i3⟩ := hit.ok k hlt
          have d0 : wr.cell? ⟨b, off + k * 4, none⟩ = some (.int .i64 (its k).due) := (bel.cell (by exact hl)).trans (hit.c0 k hlt)
          have d1 : wr.cell? ⟨b, off + k * 4 + 1, none⟩ = some (.int .u64 (its k).seq) := (bel.cell (by exact hl)).trans (hit.c1 k hlt)
          have d2 : wr.cell? ⟨b, off + k * 4 + 2, none⟩ = some (.int .u8 (its k).mem) := (bel.cell (by exact hl)).trans (hit.c2 k hlt)
          have d3 : wr.cell? ⟨b, off + k * 4 + 3, none⟩ = some (.int .u8 (its k).parts) := (bel.cell (by exact hl)).trans (hit.c3 k hlt)
          have g1 : b < wr.heap.size := by have := bel.size; omega
          have g2 : w.heap.size + 1 < wr.heap.size := by omega
          have g3 : w.heap.size + 2 + q < wr.heap.size := by omega
          have hw := hf.at_ k (by omega)
          rw [← hq', ← hr'] at hw
          obtain ⟨e0, e1, e2, e3, e4⟩ := hw
          have hz := fun o => hf.thaw q o (by omega)
          have hkn1 : (q : Int) < nc := by omega
          have hkn2 : (0 : Int) ≤ (q : Int) := by omega
          have hkn3 : (r : Int) < 1024 := by omega
          have hkn4 : (0 : Int) ≤ (r : Int) := by omega
          have hkn5 : (k : Int) / 1024 = q := by omega
          have hkn6 : (k : Int) % 1024 = r := by omega
          have hkn7 : (k : Int).tdiv 1024 = q := by rw [Int.tdiv_eq_ediv_of_nonneg (by omega)]; omega
          have hkn8 : (k : Int).tmod 1024 = r := by rw [Int.tmod_eq_emod_of_nonneg (by omega)]; omega
          have hkn9 : IntKind.i64.wrap (q : Int) = q := by rw [IntKind.wrap_i64]; omega
          have hn1' : ¬ w.heap.size + 2 + q = w.heap.size + 1 := by omega
          have hn2' : ¬ w.heap.size + 2 + q = b := by omega
          have HQ := hide hq'; have HR := hide hr'
          clear hf hof r0 r1 rf bel hit ha hn1 hn2 hq hq' hr'
          go_wp2
          go_region_held3 (fun w' => w'.cell? ⟨w.heap.size + 1, q, none⟩ = some (.slice (some ⟨w.heap.size + 2 + q, 0, none⟩) 1024 1024) ∧ w'.cell? ⟨b, off + k * 4, none⟩ = some (.int .i64 (its k).due) ∧ w'.cell? ⟨b, off + k * 4 + 1, none⟩ = some (.int .u64 (its k).seq) ∧ w'.cell? ⟨b, off + k * 4 + 2, none⟩ = some (.int .u8 (its k).mem) ∧ w'.cell? ⟨b, off + k * 4 + 3, none⟩ = some (.int .u8 (its k).parts)) (go_keep)
            (first | (go_at_call 13; refine (waiter_any k _ _ _ _ _ (by omega) i0 i1 i2 i3).mono ?_; rintro e w' ⟨t, rfl, hof, hb⟩; have hcc := bcellD hb; obtain ⟨hcc1, hcc2⟩ := hcc))
          have hb2 : Below wr.heap.size wr w' := ⟨hb.os, hb.tape, hb.output, hb.size, hb.block⟩
          have R := H2.out.step (t := t) hb2 (by have := HQ.out; omega) hof
          rw [← HQ.out, ← HR.out] at R
          have R2 := hide R
          clear hcc1 hcc2 R hb hb2 d0 d1 d2 d3 e0 e1 e2 e3 e4 hz t0
          go_wp2
          go_roundw
          case rel => exact ⟨k + 1, by omega, by go_num, R2.out⟩
          case measure => simp [intOf]; omega
        · have FIN := hide (fun A B => h2.fin (len := len) A B (by omega))
          obtain ⟨hf, hsz, r0, r1, rf, bel⟩ := h2
          have rf0 := rf 0
          have rf1 := rf 1
          clear hf rf hit ha hn1 hn2 hq
          go_wp2
          obtain ⟨f0, f1, f2, f3, f4⟩ := FIN.out (Value.slice (some { block := w.heap.size + 1, off := 0 }) nc nc) (Value.int IntKind.i64 ↑len)
          exact bodyPost_ret (v := .agg #[.slice (some ⟨w.heap.size + 1, 0, none⟩) nc nc, .int .i64 len]) (by simp [results, Yba.results5, go_sem, f0, f1]) rfl ⟨rfl, f2, f3, f4⟩
end Go.Proofs.Ybulkcgeg
