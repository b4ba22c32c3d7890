import Derived.Test.YbulkcgegB1
namespace Go.Proofs.Ybulkcgeg
open Go.RowKit
set_option linter.unusedVariables false
set_option linter.unusedSimpArgs false
set_option maxRecDepth 100000 in
set_option maxHeartbeats 2000000 in
theorem spill_o1 (a : Option Addr) (b off len cap : Nat) (its : Nat → Item) (hd pk sa sb ex : Int) (w : World) (hlen : len ≤ 4096) (ha : 0 < len → a = some ⟨b, off, none⟩) (hit : ItemsAt w b off len its)
    (s0 : 0 ≤ sa) (s1 : sa ≤ 18446744073709551615) (hh0 : 0 ≤ hd) (hh1 : hd ≤ 65535) (hp0 : 0 ≤ pk) (hp1 : pk ≤ 65535) (x0 : -9223372036854775808 ≤ ex) (x1 : ex ≤ 9223372036854775807) :
    Calls Yba.prog 4 #[.slice a len cap, .int .u16 hd, .int .u16 pk, .bool true, .int .u64 sa, .bool false, .int .i64 sb, .int .i64 ex] w fun e w' => e = .returned (.bool true) ∧ Below w.heap.size w w' := by
  have hmm := @run_makeMap Yba.prog
  have nn := nnil28
  go_enter Yba.func4, Yba.ntmps4
  go_wp2_with (go_at_call 5; refine (heap_any a b off len cap ((len + 1023) / 1024) its _ hlen (by omega) (by omega) ha hit).mono ?_; rintro e w1 ⟨rfl, ⟨f, hf, hof⟩, hsz, hb⟩)
  have HH := hide (And.intro hf hof)
  clear hf hof
  refine (qdrop_other (w1.heap.size + 1 + 1 + 1 + 1) (w1.heap.size + 1) _ sa ex _ (ne_succ sa s0 s1) x0 x1 (by simp [World.cell?_alloc_at]) (by simp [World.cell?_alloc_at]) (by simp [World.cell?_alloc_at]) (by simp [World.cell?_alloc_at]) (fun j => by simp [World.frozen?_alloc_at])).mono ?_
  rintro e w2 ⟨rfl, hb2⟩
  have d1 : w2.cell? ⟨w1.heap.size + 1 + 1 + 1 + 1, 1, none⟩ = some (.int .i64 0) := cell_later hb2 (by simp [World.cell?_alloc_at])
  have d5 : w2.cell? ⟨w1.heap.size + 1 + 1 + 1 + 1, 5, none⟩ = some (.int .i64 len) := cell_later hb2 (by simp [World.cell?_alloc_at])
  have d10 : w2.cell? ⟨w1.heap.size + 1 + 1 + 1 + 1, 10, none⟩ = some (.int .i64 (hd % (len + 1))) := cell_later hb2 (by simp [World.cell?_alloc_at])
  have d11 : w2.cell? ⟨w1.heap.size + 1 + 1 + 1 + 1, 11, none⟩ = some (.map (some (w1.heap.size + 1))) := cell_later hb2 (by simp [World.cell?_alloc_at])
  have d12 : w2.cell? ⟨w1.heap.size + 1 + 1 + 1 + 1, 12, none⟩ = some (.int .i64 sb) := cell_later hb2 (by simp [World.cell?_alloc_at])
  have d15 : w2.cell? ⟨w1.heap.size + 1 + 1 + 1 + 1, 15, none⟩ = some (.int .u64 sa) := cell_later hb2 (by simp [World.cell?_alloc_at])
  have d16 : w2.cell? ⟨w1.heap.size + 1 + 1 + 1 + 1, 16, none⟩ = some (.int .i64 ex) := cell_later hb2 (by simp [World.cell?_alloc_at])
  have HB := hide (below_of hb (by repeat (first | exact Below.refl _ _ | refine Below.alloc ?_ (by simp +arith) _)) hb2)
  have hsz2 : w1.heap.size + 1 + 1 + 1 + 1 < w2.heap.size := World.block_lt_of_cell? _ _ d1
  have hsz3 : w1.heap.size + 1 + 1 + 1 + 1 < w2.heap.size + 1 := by omega
  clear hb2 hmm hit ha hb
  go_wp2_with (go_at_call 10; refine (zero_yes _).mono ?_; rintro e w3 ⟨rfl, rfl⟩)
  go_ret
  exact ⟨by simp, by have h := HB.out; repeat (first | exact h | refine Below.alloc ?_ (by have := h.size; simp; omega) _)⟩
set_option maxRecDepth 100000 in
set_option maxHeartbeats 2000000 in
theorem spill_o2 (a : Option Addr) (b off cap : Nat) (its : Nat → Item) (hd pk sa sb ex : Int) (w : World) (hit : ItemsAt w b off 0 its)
    (s0 : 0 ≤ sa) (s1 : sa ≤ 18446744073709551615) (hh0 : 0 ≤ hd) (hh1 : hd ≤ 65535) (hp0 : 0 ≤ pk) (hp1 : pk ≤ 65535) (x0 : -9223372036854775808 ≤ ex) (x1 : ex ≤ 9223372036854775807) :
    Calls Yba.prog 4 #[.slice a 0 cap, .int .u16 hd, .int .u16 pk, .bool false, .int .u64 sa, .bool false, .int .i64 sb, .int .i64 ex] w fun e w' => e = .returned (.bool true) ∧ Below w.heap.size w w' := by
  have hmm := @run_makeMap Yba.prog
  have nn := nnil28
  go_enter Yba.func4, Yba.ntmps4
  go_wp2_with (go_at_call 5; refine (heap_any a b off 0 cap 0 its _ (by omega) (by omega) (by omega) (fun h => absurd h (by omega)) hit).mono ?_; rintro e w1 ⟨rfl, ⟨f, hf, hof⟩, hsz, hb⟩)
  have HH := hide (And.intro hf hof)
  clear hf hof
  refine (qdrop_other (w1.heap.size + 1 + 1 + 1 + 1) (w1.heap.size + 1) _ sa ex _ (ne_succ sa s0 s1) x0 x1 (by simp [World.cell?_alloc_at]) (by simp [World.cell?_alloc_at]) (by simp [World.cell?_alloc_at]) (by simp [World.cell?_alloc_at]) (fun j => by simp [World.frozen?_alloc_at])).mono ?_
  rintro e w2 ⟨rfl, hb2⟩
  have d1 : w2.cell? ⟨w1.heap.size + 1 + 1 + 1 + 1, 1, none⟩ = some (.int .i64 0) := cell_later hb2 (by simp [World.cell?_alloc_at])
  have d5 : w2.cell? ⟨w1.heap.size + 1 + 1 + 1 + 1, 5, none⟩ = some (.int .i64 0) := cell_later hb2 (by simp [World.cell?_alloc_at])
  have d10 : w2.cell? ⟨w1.heap.size + 1 + 1 + 1 + 1, 10, none⟩ = some (.int .i64 0) := cell_later hb2 (by simp [World.cell?_alloc_at])
  have d11 : w2.cell? ⟨w1.heap.size + 1 + 1 + 1 + 1, 11, none⟩ = some (.map (some (w1.heap.size + 1))) := cell_later hb2 (by simp [World.cell?_alloc_at])
  have d12 : w2.cell? ⟨w1.heap.size + 1 + 1 + 1 + 1, 12, none⟩ = some (.int .i64 sb) := cell_later hb2 (by simp [World.cell?_alloc_at])
  have d15 : w2.cell? ⟨w1.heap.size + 1 + 1 + 1 + 1, 15, none⟩ = some (.int .u64 sa) := cell_later hb2 (by simp [World.cell?_alloc_at])
  have d16 : w2.cell? ⟨w1.heap.size + 1 + 1 + 1 + 1, 16, none⟩ = some (.int .i64 ex) := cell_later hb2 (by simp [World.cell?_alloc_at])
  have HB := hide (below_of hb (by repeat (first | exact Below.refl _ _ | refine Below.alloc ?_ (by simp +arith) _)) hb2)
  have hsz2 : w1.heap.size + 1 + 1 + 1 + 1 < w2.heap.size := World.block_lt_of_cell? _ _ d1
  have hsz3 : w1.heap.size + 1 + 1 + 1 + 1 < w2.heap.size + 1 := by omega
  clear hb2 hmm hit  hb
  go_wp2_with (go_at_call 10; refine (zero_yes _).mono ?_; rintro e w3 ⟨rfl, rfl⟩)
  go_ret
  exact ⟨by simp, by have h := HB.out; repeat (first | exact h | refine Below.alloc ?_ (by have := h.size; simp; omega) _)⟩
end Go.Proofs.Ybulkcgeg
