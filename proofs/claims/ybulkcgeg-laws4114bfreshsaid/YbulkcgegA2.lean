import Derived.Test.YbulkcgegA1
import Derived.Deep.RegionHeld3
namespace Go.Proofs.Ybulkcgeg
open Go.RowKit
theorem Yba.info114 : (Yba.prog.info? 114).map (fun i => (i.zero, i.size, i.bytes)) = some (some (.agg #[.pointer none, .int .i64 0, .int .u32 0, .int .u32 0]), 4, 24) := by kernel_rfl
theorem Yba.info55 : (Yba.prog.info? 55).map (fun i => (i.zero, i.size, i.bytes)) = some (some (.agg #[.string ⟨#[]⟩, .int .i64 0, .int .u64 0, .slice none 0 0, .slice none 0 0]), 5, 80) := by kernel_rfl
theorem Yba.info5 : (Yba.prog.info? 5).map (fun i => (i.zero, i.size, i.bytes)) = some (some (.int .u8 0), 1, 1) := by kernel_rfl
def made50 (l : Int) : Array Value := madeCells (Value.agg #[.pointer none, .int .i64 0, .int .u32 0, .int .u32 0]).cells (l.toNat * 4)
def made51 (l : Int) : Array Value := madeCells (Value.int .u8 0).cells (l.toNat * 1)
theorem mk50 (w : World) (l : Int) (h0 : 0 ≤ l) (h1 : l ≤ 3) : (Instr.makeSlice 50 (.int .i64 l) (.int .i64 l)).run Yba.prog w = .ok (.slice (some ⟨w.heap.size, 0, none⟩) l.toNat l.toNat) (w.alloc (.cells (made50 l) 114)) := by
  obtain ⟨i0, hi, hz0, hz1, hz2⟩ := info_parts Yba.info114
  have := run_make w 50 114 i0 _ Yba.underlying50 hi hz0 .i64 .i64 l l h0 (Int.le_refl _) (by rw [hz2]; omega) (by omega)
  rw [hz1] at this; exact this
theorem mk51 (w : World) (l : Int) (h0 : 0 ≤ l) (h1 : l ≤ 16) : (Instr.makeSlice 51 (.int .i64 l) (.int .i64 l)).run Yba.prog w = .ok (.slice (some ⟨w.heap.size, 0, none⟩) l.toNat l.toNat) (w.alloc (.cells (made51 l) 5)) := by
  obtain ⟨i0, hi, hz0, hz1, hz2⟩ := info_parts Yba.info5
  have := run_make w 51 5 i0 _ Yba.underlying51 hi hz0 .i64 .i64 l l h0 (Int.le_refl _) (by rw [hz2]; omega) (by omega)
  rw [hz1] at this; exact this

structure Item where
  due : Int
  seq : Int
  mem : Int
  parts : Int
structure Item.ok (t : Item) : Prop where
  m0 : 0 ≤ t.mem
  m1 : t.mem ≤ 255
  p0 : 0 ≤ t.parts
  p1 : t.parts ≤ 255
def Item.val (t : Item) : Value := .agg #[.int .i64 t.due, .int .u64 t.seq, .int .u8 t.mem, .int .u8 t.parts]
structure Wt where
  id : ByteArray
  due : Int
  seq : Int
  pa : Option Addr
  pn : Nat
  ma : Option Addr
  mn : Nat
def Wt.cells (t : Wt) : List Value := [.string t.id, .int .i64 t.due, .int .u64 t.seq, .slice t.pa t.pn t.pn, .slice t.ma t.mn t.mn]
structure Wt.isOf (t : Wt) (i : Nat) (it : Item) : Prop where
  id : t.id = idOf i
  due : t.due = it.due
  seq : t.seq = it.seq
  pn : (t.pn : Int) = it.parts % 3
  mn : (t.mn : Int) = it.mem % 16

set_option maxRecDepth 100000 in
set_option maxHeartbeats 400000 in
theorem waiter_any (i : Nat) (due seq mem parts : Int) (w : World) (h : i < 4096) (m0 : 0 ≤ mem) (m1 : mem ≤ 255) (p0 : 0 ≤ parts) (p1 : parts ≤ 255) :
    Calls Yba.prog 13 #[.int .i64 i, .agg #[.int .i64 due, .int .u64 seq, .int .u8 mem, .int .u8 parts]] w fun e w' => ∃ t : Wt, e = .returned (.agg #[.string t.id, .int .i64 t.due, .int .u64 t.seq, .slice t.pa t.pn t.pn, .slice t.ma t.mn t.mn]) ∧ t.isOf i ⟨due, seq, mem, parts⟩ ∧ Below w.heap.size w w' := by
  by_cases hp : 0 < parts % 3
  · by_cases hm : 0 < mem % 16
    · have hm50 := fun (w : World) => mk50 w (parts % 3) (by omega) (by omega)
      have hm51 := fun (w : World) => mk51 w (mem % 16) (by omega) (by omega)
      go_enter Yba.func13, Yba.ntmps13
      go_wp2
      go_region_held3 (fun w' => w'.cell? ⟨w.heap.size, 0, none⟩ = some (.int .i64 due) ∧ w'.cell? ⟨w.heap.size, 1, none⟩ = some (.int .u64 seq)) (simp +arith [World.cell?_alloc_past]) (first | (go_at_call 6; refine (id_any i _ h).mono ?_; rintro e w' ⟨rfl, rfl⟩))
      all_goals go_wp2
      exact bodyPost_ret (v := .agg #[.string (idOf i), .int .i64 due, .int .u64 seq, .slice (some ⟨w.heap.size + 1 + 1, 0, none⟩) (parts % 3).toNat (parts % 3).toNat, .slice (some ⟨w.heap.size + 1 + 1 + 1, 0, none⟩) (mem % 16).toNat (mem % 16).toNat]) (by simp +arith [results, Yba.results13, go_sem]) rfl ⟨⟨idOf i, due, seq, (some ⟨w.heap.size + 1 + 1, 0, none⟩), (parts % 3).toNat, (some ⟨w.heap.size + 1 + 1 + 1, 0, none⟩), (mem % 16).toNat⟩, rfl, ⟨rfl, rfl, rfl, by show (((parts % 3).toNat : Nat) : Int) = parts % 3; omega, by show (((mem % 16).toNat : Nat) : Int) = mem % 16; omega⟩, (by repeat (first | exact Below.refl _ _ | refine Below.drew ?_ | refine Below.alloc ?_ (by simp +arith) _))⟩
    · have hm50 := fun (w : World) => mk50 w (parts % 3) (by omega) (by omega)
      go_enter Yba.func13, Yba.ntmps13
      go_wp2
      go_region_held3 (fun w' => w'.cell? ⟨w.heap.size, 0, none⟩ = some (.int .i64 due) ∧ w'.cell? ⟨w.heap.size, 1, none⟩ = some (.int .u64 seq)) (simp +arith [World.cell?_alloc_past]) (first | (go_at_call 6; refine (id_any i _ h).mono ?_; rintro e w' ⟨rfl, rfl⟩))
      all_goals go_wp2
      exact bodyPost_ret (v := .agg #[.string (idOf i), .int .i64 due, .int .u64 seq, .slice (some ⟨w.heap.size + 1 + 1, 0, none⟩) (parts % 3).toNat (parts % 3).toNat, .slice none 0 0]) (by simp +arith [results, Yba.results13, go_sem]) rfl ⟨⟨idOf i, due, seq, (some ⟨w.heap.size + 1 + 1, 0, none⟩), (parts % 3).toNat, none, 0⟩, rfl, ⟨rfl, rfl, rfl, by show (((parts % 3).toNat : Nat) : Int) = parts % 3; omega, by show ((0 : Nat) : Int) = mem % 16; omega⟩, (by repeat (first | exact Below.refl _ _ | refine Below.drew ?_ | refine Below.alloc ?_ (by simp +arith) _))⟩
  · by_cases hm : 0 < mem % 16
    · have hm51 := fun (w : World) => mk51 w (mem % 16) (by omega) (by omega)
      go_enter Yba.func13, Yba.ntmps13
      go_wp2
      go_region_held3 (fun w' => w'.cell? ⟨w.heap.size, 0, none⟩ = some (.int .i64 due) ∧ w'.cell? ⟨w.heap.size, 1, none⟩ = some (.int .u64 seq)) (simp +arith [World.cell?_alloc_past]) (first | (go_at_call 6; refine (id_any i _ h).mono ?_; rintro e w' ⟨rfl, rfl⟩))
      all_goals go_wp2
      exact bodyPost_ret (v := .agg #[.string (idOf i), .int .i64 due, .int .u64 seq, .slice none 0 0, .slice (some ⟨w.heap.size + 1 + 1, 0, none⟩) (mem % 16).toNat (mem % 16).toNat]) (by simp +arith [results, Yba.results13, go_sem]) rfl ⟨⟨idOf i, due, seq, none, 0, (some ⟨w.heap.size + 1 + 1, 0, none⟩), (mem % 16).toNat⟩, rfl, ⟨rfl, rfl, rfl, by show ((0 : Nat) : Int) = parts % 3; omega, by show (((mem % 16).toNat : Nat) : Int) = mem % 16; omega⟩, (by repeat (first | exact Below.refl _ _ | refine Below.drew ?_ | refine Below.alloc ?_ (by simp +arith) _))⟩
    · go_enter Yba.func13, Yba.ntmps13
      go_wp2
      go_region_held3 (fun w' => w'.cell? ⟨w.heap.size, 0, none⟩ = some (.int .i64 due) ∧ w'.cell? ⟨w.heap.size, 1, none⟩ = some (.int .u64 seq)) (simp +arith [World.cell?_alloc_past]) (first | (go_at_call 6; refine (id_any i _ h).mono ?_; rintro e w' ⟨rfl, rfl⟩))
      all_goals go_wp2
      exact bodyPost_ret (v := .agg #[.string (idOf i), .int .i64 due, .int .u64 seq, .slice none 0 0, .slice none 0 0]) (by simp +arith [results, Yba.results13, go_sem]) rfl ⟨⟨idOf i, due, seq, none, 0, none, 0⟩, rfl, ⟨rfl, rfl, rfl, by show ((0 : Nat) : Int) = parts % 3; omega, by show ((0 : Nat) : Int) = mem % 16; omega⟩, (by repeat (first | exact Below.refl _ _ | refine Below.drew ?_ | refine Below.alloc ?_ (by simp +arith) _))⟩
end Go.Proofs.Ybulkcgeg
