import Derived.Test.YbulkcgegA4
import Derived.WalkLawsBesides
import Derived.BigQuiet
import Derived.Deep.QuietTactic
namespace Go.Proofs.Ybulkcgeg
open Go.RowKit
set_option maxRecDepth 100000 in
set_option maxHeartbeats 400000 in
theorem at_any (hb ho T K nc i : Nat) (w : World) (hnc : nc ≤ 4) (hi : i < nc * 1024) (hc : w.cell? ⟨hb, ho, none⟩ = some (.slice (some ⟨T, 0, none⟩) nc nc)) (ht : ∀ c, c < nc → w.cell? ⟨T, c, none⟩ = some (.slice (some ⟨K + c, 0, none⟩) 1024 1024)) :
    Calls Yba.prog 12 #[.pointer (some ⟨hb, ho, none⟩), .int .i64 i] w fun e w' => e = .returned (.pointer (some ⟨K + i / 1024, i % 1024 * 5, none⟩)) ∧ w' = w := by
  have t0 := ht (i / 1024) (by omega)
  have b0 : (i : Int) / 1024 < nc := by omega
  clear ht
  go_enter Yba.func12, Yba.ntmps12
  go_wp2
  go_ret
  exact ⟨rfl, rfl⟩
theorem nil51 (w : World) (a : Option Addr) (n c : Nat) : (binOp .eql 51 (.slice a n c) (.slice none 0 0)).run Yba.prog w = .ok (.bool a.isNone) w := Lib.run_eql_slice_nil w 51 5 a n c 0 0 Yba.underlying51
theorem nil50 (w : World) (a : Option Addr) (n c : Nat) : (binOp .eql 50 (.slice a n c) (.slice none 0 0)).run Yba.prog w = .ok (.bool a.isNone) w := Lib.run_eql_slice_nil w 50 114 a n c 0 0 Yba.underlying50
set_option maxRecDepth 100000 in
set_option maxHeartbeats 400000 in
theorem zero_yes (w : World) :
    Calls Yba.prog 10 #[.agg #[.string ⟨#[]⟩, .int .i64 0, .int .u64 0, .slice none 0 0, .slice none 0 0]] w fun e w' => e = .returned (.bool true) ∧ w' = w.alloc (.cells #[.string ⟨#[]⟩, .int .i64 0, .int .u64 0, .slice none 0 0, .slice none 0 0] 55) := by
  have n1 := nil51
  have n2 := nil50
  go_enter Yba.func10, Yba.ntmps10
  go_wp2
  go_ret
  exact ⟨rfl, rfl⟩
set_option maxRecDepth 100000 in
set_option maxHeartbeats 1000000 in
theorem is_yes (t : Wt) (i : Nat) (it : Item) (w : World) (hi : i < 4096) (ok : it.ok) (h : t.isOf i it) :
    Calls Yba.prog 11 #[.agg #[.string t.id, .int .i64 t.due, .int .u64 t.seq, .slice t.pa t.pn t.pn, .slice t.ma t.mn t.mn], .int .i64 i, .agg #[.int .i64 it.due, .int .u64 it.seq, .int .u8 it.mem, .int .u8 it.parts]] w fun e w' => e = .returned (.bool true) ∧ Below w.heap.size w w' := by
  obtain ⟨tid, tdue, tseq, pa, pn, ma, mn⟩ := t
  obtain ⟨due, seq, mem, parts⟩ := it
  obtain ⟨h1, h2, h3, h4, h5⟩ := h
  obtain ⟨o1, o2, o3, o4⟩ := ok
  simp only at h1 h2 h3 h4 h5 o1 o2 o3 o4 ⊢
  subst h1 h2 h3
  have q1 : mem.tmod 16 = mn := by rw [Int.tmod_eq_emod_of_nonneg (by omega)]; omega
  have q2 : parts.tmod 3 = pn := by rw [Int.tmod_eq_emod_of_nonneg (by omega)]; omega
  have q3 : IntKind.i64.wrap (mn : Int) = mn := by rw [IntKind.wrap_i64]; omega
  have q4 : IntKind.i64.wrap (pn : Int) = pn := by rw [IntKind.wrap_i64]; omega
  clear h4 h5 o1 o2 o3 o4
  go_enter Yba.func11, Yba.ntmps11
  go_wp2
  go_region_held3 (fun w' => w'.cell? ⟨w.heap.size, 0, none⟩ = some (.string (idOf i)) ∧ w'.cell? ⟨w.heap.size, 1, none⟩ = some (.int .i64 tdue) ∧ w'.cell? ⟨w.heap.size, 2, none⟩ = some (.int .u64 tseq) ∧ w'.cell? ⟨w.heap.size, 3, none⟩ = some (.slice pa pn pn) ∧ w'.cell? ⟨w.heap.size, 4, none⟩ = some (.slice ma mn mn) ∧ w'.cell? ⟨w.heap.size + 1, 0, none⟩ = some (.int .i64 tdue) ∧ w'.cell? ⟨w.heap.size + 1, 1, none⟩ = some (.int .u64 tseq) ∧ w'.cell? ⟨w.heap.size + 1, 2, none⟩ = some (.int .u8 mem) ∧ w'.cell? ⟨w.heap.size + 1, 3, none⟩ = some (.int .u8 parts)) (simp +arith [World.cell?_alloc_past, World.cell?_alloc_at])
    (first | (go_at_call 6; refine (id_any i _ hi).mono ?_; rintro e w' ⟨rfl, rfl⟩))
  all_goals go_wp2
  go_ret
  exact ⟨rfl, by repeat (first | exact Below.refl _ _ | refine Below.drew ?_ | refine Below.alloc ?_ (by simp +arith) _)⟩
end Go.Proofs.Ybulkcgeg
