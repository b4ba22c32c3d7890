import Derived.Test.YbulkcggyDoorProg
import Derived.WalkKit
import Derived.WalkSpells
import Derived.WalkLawsBesides
import Derived.Below
import Derived.Deep.RegionHeld3
import Derived.Deep.QuietTactic
import Derived.BigQuiet
import Derived.BigRegion
import Derived.OwnWalk
import Derived.Laws.AppendOwn
import Derived.Laws.OwnMore
import Derived.Laws.EntriesVeiled
import Derived.Deep.DeepCutAuto
import Derived.LaidEqlPtr
namespace Go.Proofs.YbulkcggyDoor
open Go.RowKit
set_option linter.unusedVariables false
set_option linter.unusedSimpArgs false
structure Hid (p : Prop) : Prop where
  out : p
theorem hide {p : Prop} (h : p) : Hid p := ⟨h⟩
theorem wrap_in (x : Int) (h0 : -9223372036854775808 ≤ x) (h1 : x ≤ 9223372036854775807) : IntKind.i64.wrap x = x := by
  simp [IntKind.wrap, IntKind.signed, IntKind.bits]; omega
@[go_sem] theorem b_and1 : bits BinOp.and IntKind.u64 0 1073741823 = 0 := by kernel_rfl
@[go_sem] theorem b_and2 : bits BinOp.and IntKind.u64 0 9223372036854775808 = 0 := by kernel_rfl
@[go_sem] theorem b_and0 : bits BinOp.and IntKind.u64 0 0 = 0 := by kernel_rfl
@[go_sem] theorem b_or0 : bits BinOp.or IntKind.u64 0 0 = 0 := by kernel_rfl
@[go_sem] theorem b_andn : bits BinOp.andNot IntKind.u64 0 1073741823 = 0 := by kernel_rfl
@[go_sem] theorem w32_0 : wrap32 0 = 0 := by kernel_rfl
set_option maxRecDepth 100000
theorem nsec_any (b : Nat) (w : World) (h : w.cell? ⟨b, 0, none⟩ = some (.int .u64 0)) :
    Calls Ybad.prog 7 #[.pointer (some ⟨b, 0, none⟩)] w fun e w' => e = .returned (.int .i32 0) ∧ w' = w := by
  go_enter Ybad.func7, Ybad.ntmps7
  go_wp2
  go_ret
  exact ⟨by rfl, rfl⟩
theorem sec_any (b : Nat) (x : Int) (w : World) (h : w.cell? ⟨b, 0, none⟩ = some (.int .u64 0)) (h1 : w.cell? ⟨b, 1, none⟩ = some (.int .i64 x)) :
    Calls Ybad.prog 19 #[.pointer (some ⟨b, 0, none⟩)] w fun e w' => e = .returned (.int .i64 x) ∧ w' = w := by
  go_enter Ybad.func19, Ybad.ntmps19
  go_wp2
  go_ret
  exact ⟨by rfl, rfl⟩
theorem setCell_self {w : World} {b o : Nat} {v : Value} (h : w.cell? ⟨b, o, none⟩ = some v) : w.setCell ⟨b, o, none⟩ v = w := by
  have e : (w.setCell ⟨b, o, none⟩ v).heap = w.heap := by
    apply Array.ext_getElem?
    intro k
    simp only [World.setCell, Array.getElem?_modify]
    by_cases hk : b = k
    · subst hk
      simp only [if_true]
      unfold World.cell? at h
      cases hh : w.heap[b]? with
      | none => simp [hh] at h
      | some x =>
        cases x with
        | cells c t f =>
          simp only [hh, Option.isSome_none, Bool.false_eq_true, if_false] at h
          simp only [Option.map_some, Option.isSome_none, Bool.false_eq_true, if_false]
          congr 2
          apply Array.ext_getElem?
          intro j
          rw [Array.getElem?_setIfInBounds]
          split
          · subst_vars; split
            · exact h.symm
            · rename_i hh2; simp [Array.getElem?_eq_none (Nat.le_of_not_lt hh2)] at h
          · rfl
        | _ => simp [hh] at h
    · rw [if_neg hk]
  show ({ w with heap := (w.setCell ⟨b, o, none⟩ v).heap } : World) = w
  rw [e]
theorem strip_any (b : Nat) (w : World) (h : w.cell? ⟨b, 0, none⟩ = some (.int .u64 0)) (hf : w.frozen? ⟨b, 0, none⟩ = false) :
    Calls Ybad.prog 9 #[.pointer (some ⟨b, 0, none⟩)] w fun e w' => e = .returned (.tuple #[]) ∧ w' = w := by
  have hs := setCell_self h
  go_enter Ybad.func9, Ybad.ntmps9
  go_wp2
  go_end0
  exact ⟨rfl, rfl⟩
/-- time.Time.addSec, of a time that is plain. -/
theorem addSec_any (b : Nat) (x s : Int) (w : World) (h : w.cell? ⟨b, 0, none⟩ = some (.int .u64 0)) (h1 : w.cell? ⟨b, 1, none⟩ = some (.int .i64 x)) (hf : w.frozen? ⟨b, 1, none⟩ = false) (hw : IntKind.i64.wrap (x + s) = x + s) :
    Calls Ybad.prog 8 #[.pointer (some ⟨b, 0, none⟩), .int .i64 s] w fun e w' => e = .returned (.tuple #[]) ∧ w' = w.setCell ⟨b, 1, none⟩ (.int .i64 (x + s)) := by
  have hq : ((decide (x < x + s)) == (decide (0 < s))) = true := by
    by_cases hs : 0 < s
    · simp [hs]; omega
    · simp [hs]; omega
  go_enter Ybad.func8, Ybad.ntmps8
  go_wp2
  go_end0
  exact ⟨rfl, rfl⟩
/-- time.Time.Add, of a plain time and a whole number of seconds. -/
theorem add_any (x d s : Int) (w : World) (hd : d.tdiv 1000000000 = s) (hm : d.tmod 1000000000 = 0) (hw : IntKind.i64.wrap (x + s) = x + s) (hs : IntKind.i64.wrap s = s) :
    Calls Ybad.prog 4 #[.agg #[.int .u64 0, .int .i64 x, .pointer none], .int .i64 d] w fun e w' => e = .returned (.agg #[.int .u64 0, .int .i64 (x + s), .pointer none]) ∧ w' = (w.alloc (.cells #[.int .u64 0, .int .i64 (x + s), .pointer none] 27)).alloc (.cells #[.int .u64 0, .int .i64 (x + s), .pointer none] 27) := by
  go_enter Ybad.func4, Ybad.ntmps4
  go_wp2_with (first
    | (go_at_call 7; refine (nsec_any _ _ ?_).mono ?_; (simp); rintro e w1 ⟨rfl, rfl⟩)
    | (go_at_call 8; refine (addSec_any _ x s _ ?_ ?_ ?_ hw).mono ?_; (simp); (simp); (simp); rintro e w1 ⟨rfl, rfl⟩))
  exact bodyPost_ret (v := .agg #[.int .u64 0, .int .i64 (x + s), .pointer none]) (by simp +arith [results, Ybad.results4, go_sem]) rfl ⟨rfl, rfl⟩
/-- The memory behind two plain times by value. -/
def W2 (w : World) (x y : Int) : World := (w.alloc (.cells #[.int .u64 0, .int .i64 x, .pointer none] 27)).alloc (.cells #[.int .u64 0, .int .i64 y, .pointer none] 27)
theorem W2.below (w : World) (x y : Int) : Below w.heap.size w (W2 w x y) := ((Below.refl _ _).alloc (Nat.le_refl _) _).alloc (by simp) _
theorem W2.a0 (w : World) (x y : Int) : (W2 w x y).cell? ⟨w.heap.size, 0, none⟩ = some (.int .u64 0) := by unfold W2; simp +arith [World.cell?_alloc_past, World.cell?_alloc_at]
theorem W2.a1 (w : World) (x y : Int) : (W2 w x y).cell? ⟨w.heap.size, 1, none⟩ = some (.int .i64 x) := by unfold W2; simp +arith [World.cell?_alloc_past, World.cell?_alloc_at]
theorem W2.b0 (w : World) (x y : Int) : (W2 w x y).cell? ⟨w.heap.size + 1, 0, none⟩ = some (.int .u64 0) := by unfold W2; simp +arith [World.cell?_alloc_past, World.cell?_alloc_at]
theorem W2.b1 (w : World) (x y : Int) : (W2 w x y).cell? ⟨w.heap.size + 1, 1, none⟩ = some (.int .i64 y) := by unfold W2; simp +arith [World.cell?_alloc_past, World.cell?_alloc_at]
/-- The same, said of a world and of blocks that are letters. -/
structure P2 (w : World) (x y : Int) (V : World) (A B : Nat) : Prop where
  eq : V = (w.alloc (.cells #[.int .u64 0, .int .i64 x, .pointer none] 27)).alloc (.cells #[.int .u64 0, .int .i64 y, .pointer none] 27)
  eqA : A = w.heap.size
  eqB : B = w.heap.size + 1
  a0 : V.cell? ⟨A, 0, none⟩ = some (.int .u64 0)
  a1 : V.cell? ⟨A, 1, none⟩ = some (.int .i64 x)
  a2 : V.cell? ⟨A, 2, none⟩ = some (.pointer none)
  b0 : V.cell? ⟨B, 0, none⟩ = some (.int .u64 0)
  b1 : V.cell? ⟨B, 1, none⟩ = some (.int .i64 y)
  b2 : V.cell? ⟨B, 2, none⟩ = some (.pointer none)
  bel : Below w.heap.size w V
theorem P2.mk' (w : World) (x y : Int) : ∃ V A B, P2 w x y V A B := ⟨W2 w x y, _, _, rfl, rfl, rfl, W2.a0 w x y, W2.a1 w x y, by unfold W2; simp +arith [World.cell?_alloc_past, World.cell?_alloc_at], W2.b0 w x y, W2.b1 w x y, by unfold W2; simp +arith [World.cell?_alloc_past, World.cell?_alloc_at], W2.below w x y⟩
theorem after_any (x y : Int) (w : World) :
    Calls Ybad.prog 10 #[.agg #[.int .u64 0, .int .i64 x, .pointer none], .agg #[.int .u64 0, .int .i64 y, .pointer none]] w fun e w' => e = .returned (.bool (decide (y < x))) ∧ w' = W2 w x y := by
  obtain ⟨V, A, B, hV⟩ := P2.mk' w x y
  go_enter Ybad.func10, Ybad.ntmps10
  go_upto_region 1 with fail
  rw [← hV.eq, ← hV.eqB, ← hV.eqA]
  have HB := hide hV.eq
  obtain ⟨hveq, hveA, hveB, a0, a1, a2, b0, b1, b2, _⟩ := hV
  clear hveq hveA hveB
  by_cases hxy : y < x
  · have hd : decide (y < x) = true := by simp [hxy]
    go_wp2_with (first
      | (go_at_call_of 7 (Value.pointer (some ⟨A, 0, none⟩)); refine (nsec_any _ _ a0).mono ?_; rintro e w1 ⟨rfl, rfl⟩)
      | (go_at_call_of 7 (Value.pointer (some ⟨B, 0, none⟩)); refine (nsec_any _ _ b0).mono ?_; rintro e w1 ⟨rfl, rfl⟩)
      | (go_at_call_of 19 (Value.pointer (some ⟨A, 0, none⟩)); refine (sec_any _ x _ a0 a1).mono ?_; rintro e w1 ⟨rfl, rfl⟩)
      | (go_at_call_of 19 (Value.pointer (some ⟨B, 0, none⟩)); refine (sec_any _ y _ b0 b1).mono ?_; rintro e w1 ⟨rfl, rfl⟩))
    go_ret
    exact ⟨by rw [hd]; rfl, HB.out⟩
  · have hd : decide (y < x) = false := by simp [hxy]
    by_cases he : x = y
    · subst he
      go_wp2_with (first
        | (go_at_call_of 7 (Value.pointer (some ⟨A, 0, none⟩)); refine (nsec_any _ _ a0).mono ?_; rintro e w1 ⟨rfl, rfl⟩)
        | (go_at_call_of 7 (Value.pointer (some ⟨B, 0, none⟩)); refine (nsec_any _ _ b0).mono ?_; rintro e w1 ⟨rfl, rfl⟩)
        | (go_at_call_of 19 (Value.pointer (some ⟨A, 0, none⟩)); refine (sec_any _ x _ a0 a1).mono ?_; rintro e w1 ⟨rfl, rfl⟩)
        | (go_at_call_of 19 (Value.pointer (some ⟨B, 0, none⟩)); refine (sec_any _ x _ b0 b1).mono ?_; rintro e w1 ⟨rfl, rfl⟩))
      go_ret
      exact ⟨by rw [hd]; rfl, HB.out⟩
    · have he' : (x == y) = false := by simp [he]
      go_wp2_with (first
        | (go_at_call_of 7 (Value.pointer (some ⟨A, 0, none⟩)); refine (nsec_any _ _ a0).mono ?_; rintro e w1 ⟨rfl, rfl⟩)
        | (go_at_call_of 7 (Value.pointer (some ⟨B, 0, none⟩)); refine (nsec_any _ _ b0).mono ?_; rintro e w1 ⟨rfl, rfl⟩)
        | (go_at_call_of 19 (Value.pointer (some ⟨A, 0, none⟩)); refine (sec_any _ x _ a0 a1).mono ?_; rintro e w1 ⟨rfl, rfl⟩)
        | (go_at_call_of 19 (Value.pointer (some ⟨B, 0, none⟩)); refine (sec_any _ y _ b0 b1).mono ?_; rintro e w1 ⟨rfl, rfl⟩))
      go_ret
      exact ⟨by rw [hd]; rfl, HB.out⟩
theorem before_any (x y : Int) (w : World) :
    Calls Ybad.prog 13 #[.agg #[.int .u64 0, .int .i64 x, .pointer none], .agg #[.int .u64 0, .int .i64 y, .pointer none]] w fun e w' => e = .returned (.bool (decide (x < y))) ∧ w' = W2 w x y := by
  obtain ⟨V, A, B, hV⟩ := P2.mk' w x y
  go_enter Ybad.func13, Ybad.ntmps13
  go_upto_region 1 with fail
  rw [← hV.eq, ← hV.eqB, ← hV.eqA]
  have HB := hide hV.eq
  obtain ⟨hveq, hveA, hveB, a0, a1, a2, b0, b1, b2, _⟩ := hV
  clear hveq hveA hveB
  by_cases hxy : x < y
  · have hd : decide (x < y) = true := by simp [hxy]
    go_wp2_with (first
      | (go_at_call_of 7 (Value.pointer (some ⟨A, 0, none⟩)); refine (nsec_any _ _ a0).mono ?_; rintro e w1 ⟨rfl, rfl⟩)
      | (go_at_call_of 7 (Value.pointer (some ⟨B, 0, none⟩)); refine (nsec_any _ _ b0).mono ?_; rintro e w1 ⟨rfl, rfl⟩)
      | (go_at_call_of 19 (Value.pointer (some ⟨A, 0, none⟩)); refine (sec_any _ x _ a0 a1).mono ?_; rintro e w1 ⟨rfl, rfl⟩)
      | (go_at_call_of 19 (Value.pointer (some ⟨B, 0, none⟩)); refine (sec_any _ y _ b0 b1).mono ?_; rintro e w1 ⟨rfl, rfl⟩))
    go_ret
    exact ⟨by rw [hd]; rfl, HB.out⟩
  · have hd : decide (x < y) = false := by simp [hxy]
    by_cases he : x = y
    · subst he
      go_wp2_with (first
        | (go_at_call_of 7 (Value.pointer (some ⟨A, 0, none⟩)); refine (nsec_any _ _ a0).mono ?_; rintro e w1 ⟨rfl, rfl⟩)
        | (go_at_call_of 7 (Value.pointer (some ⟨B, 0, none⟩)); refine (nsec_any _ _ b0).mono ?_; rintro e w1 ⟨rfl, rfl⟩)
        | (go_at_call_of 19 (Value.pointer (some ⟨A, 0, none⟩)); refine (sec_any _ x _ a0 a1).mono ?_; rintro e w1 ⟨rfl, rfl⟩)
        | (go_at_call_of 19 (Value.pointer (some ⟨B, 0, none⟩)); refine (sec_any _ x _ b0 b1).mono ?_; rintro e w1 ⟨rfl, rfl⟩))
      go_ret
      exact ⟨by rw [hd]; rfl, HB.out⟩
    · have he' : (x == y) = false := by simp [he]
      go_wp2_with (first
        | (go_at_call_of 7 (Value.pointer (some ⟨A, 0, none⟩)); refine (nsec_any _ _ a0).mono ?_; rintro e w1 ⟨rfl, rfl⟩)
        | (go_at_call_of 7 (Value.pointer (some ⟨B, 0, none⟩)); refine (nsec_any _ _ b0).mono ?_; rintro e w1 ⟨rfl, rfl⟩)
        | (go_at_call_of 19 (Value.pointer (some ⟨A, 0, none⟩)); refine (sec_any _ x _ a0 a1).mono ?_; rintro e w1 ⟨rfl, rfl⟩)
        | (go_at_call_of 19 (Value.pointer (some ⟨B, 0, none⟩)); refine (sec_any _ y _ b0 b1).mono ?_; rintro e w1 ⟨rfl, rfl⟩))
      go_ret
      exact ⟨by rw [hd]; rfl, HB.out⟩
theorem equal_any (x : Int) (w : World) :
    Calls Ybad.prog 22 #[.agg #[.int .u64 0, .int .i64 x, .pointer none], .agg #[.int .u64 0, .int .i64 x, .pointer none]] w fun e w' => e = .returned (.bool true) ∧ w' = W2 w x x := by
  obtain ⟨V, A, B, hV⟩ := P2.mk' w x x
  go_enter Ybad.func22, Ybad.ntmps22
  go_upto_region 1 with fail
  rw [← hV.eq, ← hV.eqB, ← hV.eqA]
  have HB := hide hV.eq
  obtain ⟨hveq, hveA, hveB, a0, a1, a2, b0, b1, b2, _⟩ := hV
  clear hveq hveA hveB
  go_wp2_with (first
    | (go_at_call_of 7 (Value.pointer (some ⟨A, 0, none⟩)); refine (nsec_any _ _ a0).mono ?_; rintro e w1 ⟨rfl, rfl⟩)
    | (go_at_call_of 7 (Value.pointer (some ⟨B, 0, none⟩)); refine (nsec_any _ _ b0).mono ?_; rintro e w1 ⟨rfl, rfl⟩)
    | (go_at_call_of 19 (Value.pointer (some ⟨A, 0, none⟩)); refine (sec_any _ x _ a0 a1).mono ?_; rintro e w1 ⟨rfl, rfl⟩)
    | (go_at_call_of 19 (Value.pointer (some ⟨B, 0, none⟩)); refine (sec_any _ x _ b0 b1).mono ?_; rintro e w1 ⟨rfl, rfl⟩))
  go_ret
  exact ⟨by rfl, HB.out⟩
theorem compare_any (x y : Int) (w : World) :
    Calls Ybad.prog 18 #[.agg #[.int .u64 0, .int .i64 x, .pointer none], .agg #[.int .u64 0, .int .i64 y, .pointer none]] w fun e w' => (∃ c : Int, e = .returned (.int .i64 c) ∧ (c < 0 ↔ x < y)) ∧ w' = W2 w x y := by
  obtain ⟨V, A, B, hV⟩ := P2.mk' w x y
  go_enter Ybad.func18, Ybad.ntmps18
  go_upto_region 1 with fail
  rw [← hV.eq, ← hV.eqB, ← hV.eqA]
  have HB := hide hV.eq
  obtain ⟨hveq, hveA, hveB, a0, a1, a2, b0, b1, b2, _⟩ := hV
  clear hveq hveA hveB
  rcases Int.lt_trichotomy x y with hxy | hxy | hxy
  · have he' : (x == y) = false := by simp; omega
    go_wp2_with (first
      | (go_at_call_of 7 (Value.pointer (some ⟨A, 0, none⟩)); refine (nsec_any _ _ a0).mono ?_; rintro e w1 ⟨rfl, rfl⟩)
      | (go_at_call_of 7 (Value.pointer (some ⟨B, 0, none⟩)); refine (nsec_any _ _ b0).mono ?_; rintro e w1 ⟨rfl, rfl⟩)
      | (go_at_call_of 19 (Value.pointer (some ⟨A, 0, none⟩)); refine (sec_any _ x _ a0 a1).mono ?_; rintro e w1 ⟨rfl, rfl⟩)
      | (go_at_call_of 19 (Value.pointer (some ⟨B, 0, none⟩)); refine (sec_any _ y _ b0 b1).mono ?_; rintro e w1 ⟨rfl, rfl⟩))
    go_ret
    exact ⟨⟨-1, by rfl, by omega⟩, HB.out⟩
  · subst hxy
    go_wp2_with (first
      | (go_at_call_of 7 (Value.pointer (some ⟨A, 0, none⟩)); refine (nsec_any _ _ a0).mono ?_; rintro e w1 ⟨rfl, rfl⟩)
      | (go_at_call_of 7 (Value.pointer (some ⟨B, 0, none⟩)); refine (nsec_any _ _ b0).mono ?_; rintro e w1 ⟨rfl, rfl⟩)
      | (go_at_call_of 19 (Value.pointer (some ⟨A, 0, none⟩)); refine (sec_any _ x _ a0 a1).mono ?_; rintro e w1 ⟨rfl, rfl⟩)
      | (go_at_call_of 19 (Value.pointer (some ⟨B, 0, none⟩)); refine (sec_any _ x _ b0 b1).mono ?_; rintro e w1 ⟨rfl, rfl⟩))
    go_ret
    exact ⟨⟨0, by rfl, by omega⟩, HB.out⟩
  · have he' : (x == y) = false := by simp; omega
    have he2 : ¬ x < y := by omega
    go_wp2_with (first
      | (go_at_call_of 7 (Value.pointer (some ⟨A, 0, none⟩)); refine (nsec_any _ _ a0).mono ?_; rintro e w1 ⟨rfl, rfl⟩)
      | (go_at_call_of 7 (Value.pointer (some ⟨B, 0, none⟩)); refine (nsec_any _ _ b0).mono ?_; rintro e w1 ⟨rfl, rfl⟩)
      | (go_at_call_of 19 (Value.pointer (some ⟨A, 0, none⟩)); refine (sec_any _ x _ a0 a1).mono ?_; rintro e w1 ⟨rfl, rfl⟩)
      | (go_at_call_of 19 (Value.pointer (some ⟨B, 0, none⟩)); refine (sec_any _ y _ b0 b1).mono ?_; rintro e w1 ⟨rfl, rfl⟩))
    go_ret
    exact ⟨⟨1, by rfl, by omega⟩, HB.out⟩
end Go.Proofs.YbulkcggyDoor
